import Derived.Test.YtpcleebnfgnhdaaGreatDoorGz40
import Derived.Test.YtpcleebnfgnhdaaGreatDoorGz41
/- Walk: impl.filled. -/
set_option linter.unusedVariables false
set_option linter.unusedSimpArgs false
namespace Go.Proofs.YtpcleebnfgnhdaaGreatDoor
open Go.RowKit
open Num

/-- a dict's table with so many keys -/
def TabIn (R : Value → Tr → Prop) (d b k : Nat) (kt : Nat → Tr) (w : World) : Prop :=
  ∃ (K V : Nat → Value) (laid : Bool), (laid = true ∨ k = 0) ∧ Row w b 143 47 (htCell b laid k (fun i => nzH (hashT d (kt i))) K V) ∧ ∀ i, i < k → R (K i) (kt i)
theorem row_lit {w : World} {b T : Nat} {cs : Array Value} (h : w.heap[b]? = some (.cells cs T (0, 0))) : Row w b T cs.size (fun i => cs.getD i undef) :=
  ⟨cs, h, rfl, fun i hi => by simp [Array.getD, hi]⟩
theorem TabIn.begin {R : Value → Tr → Prop} {d b : Nat} {kt : Nat → Tr} {w : World} (h : w.heap[b]? = some (.cells htZero 143 (0, 0))) : TabIn R d b 0 kt w :=
  ⟨fun _ => .nilIface, fun _ => .nilIface, false, .inr rfl, (row_lit h).congr (htZero_cells _ _ _ _), fun i hi => absurd hi (by omega)⟩
theorem insert_chg (R : Value → Tr → Prop) (d b k : Nat) (kt : Nat → Tr) (wr : World) (kv : Value) (tv : Nat) (uv : Value) (hd : d ≤ 10) (hk : k ≤ 7)
    (hR : ∀ W, Chg b wr W → ∀ u T, R u T → StarAt W d u T) (h : TabIn R d b k kt wr) (hkv : R kv (kt k)) (hK : ∀ i, i ≤ k → KeyT d (kt i) ∧ Slim d (kt i)) (hA : ∀ i, i < k → eqv d (kt i) (kt k) = false) (hkt : ∀ W, Chg b wr W → KT W ∧ CL W) :
    Calls Tryz.prog 84 #[.pointer (some ⟨b, 0, none⟩), kv, .iface tv uv] wr fun e w' => e = .returned .nilIface ∧ TabIn R d b (k + 1) kt w' ∧ Chg b wr w' := by
  obtain ⟨K, V, laid, h1, h2, h3⟩ := h
  refine (insert_new 143 b k laid _ K V kv tv uv (hashT d (kt k)) wr hk h1 (fun i _ => ⟨nzH_pos _, nzH_lt (hashT_lt d _)⟩) (hashT_lt d _) h2
    (fun W hc => Hash_any d kv (kt k) W (hR W hc _ _ hkv) (hK k (Nat.le_refl _)).1 (hK k (Nat.le_refl _)).2)
    (fun i hi W hc _ => by
      have := Equal_key d kv (K i) (kt k) (kt i) W hd (hR W hc _ _ hkv) (hR W hc _ _ (h3 i hi)) (hK k (Nat.le_refl _)).1 (hK i (by omega)).1 (hK k (Nat.le_refl _)).2 (hK i (by omega)).2 (hkt W hc).1 (hkt W hc).2
      rwa [eqv_comm d (kt k) (kt i) (hK k (Nat.le_refl _)).1 (hK i (by omega)).1, hA i hi] at this)).mono ?_
  rintro e w' ⟨rfl, hr, hc⟩
  refine ⟨rfl, ⟨_, _, true, .inl rfl, hr.congr (fun j _ => htCell_congr (H' := fun i => nzH (hashT d (kt i))) (K' := fun i => if i = k then kv else K i) (V' := fun i => if i = k then .iface tv uv else V i) (fun i hi => ?_) j), fun i hi => ?_⟩, hc⟩
  · refine ⟨?_, rfl, rfl⟩
    by_cases e : i = k
    · subst e; simp
    · simp [e]
  · by_cases e : i = k
    · subst e; simp only [if_true]; exact hkv
    · simp only [e, if_false]; exact h3 i (by omega)

/-- what filled leaves -/
def FilIs (b : Nat) (w : World) (e : Ending) (w' : World) : Prop := e = .returned (.bool true) ∧ Chg b w w'

set_option maxRecDepth 100000 in
theorem filled_no (lv kv : Value) (t : TypeId) (u : Value) (b : Nat) (w : World) (h : NoLD t u) (hl : ∃ a n c, lv = .slice a n c) (hk : ∃ a n c, kv = .slice a n c) :
    Calls Tryz.prog 32 #[lv, .iface t u, kv] w (FilIs b w) := by
  obtain ⟨a, n, c, rfl⟩ := hl
  obtain ⟨a', n', c', rfl⟩ := hk
  obtain ⟨_, _, h1, h2⟩ := h
  go_enter Tryz.func32, Tryz.ntmps32
  go_wp2
  go_ret
  exact ⟨rfl, Chg.refl _ _⟩

set_option maxRecDepth 100000 in
set_option maxHeartbeats 4000000 in
theorem filled_lst (lv kv : Value) (es : List Value) (ks : List Nat) (S : Nat → Prop) (b : Nat) (w : World) (hlv : RowV w lv es) (hks : NumsB w S kv ks) (h8 : ks.length ≤ 8) (hlt : ∀ k ∈ ks, k < es.length) (hel : es.length ≤ 1000)
    (hb : w.heap[b]? = some (.cells #[.slice none 0 0, .bool false, .int .u32 0] 162 (0, 0))) (hlb : lv.ownBlock ≠ some b) (hSb : ¬ S b) (hif : ∀ u ∈ es, ∃ t x, u = .iface t x) :
    Calls Tryz.prog 32 #[lv, .iface 115 (.pointer (some ⟨b, 0, none⟩)), kv] w (FilIs b w) := by
  obtain ⟨aa, ac, rfl⟩ := hlv.shape
  obtain ⟨ka, kc, rfl⟩ := hks.shape
  have hbl := (Array.getElem?_eq_some_iff.1 hb).1
  obtain ⟨K, hK⟩ : ∃ K, K = ks.length := ⟨_, rfl⟩
  have h0 : LstAt w w.heap.size b 0 := ⟨_, [], hb, World.ownsRow_nil w _ _ 1, none, 0, rfl⟩
  have HLV := Lib.hid hlv; have HKS := Lib.hid hks; have HLT := Lib.hid hlt; have HIF := Lib.hid hif; have HB := Lib.hid hb; have HBL := Lib.hid hbl; have HLB := Lib.hid hlb; have HSB := Lib.hid hSb; have HK := Lib.hid hK; have H0 := Lib.hid h0; have HEL := Lib.hid hel
  have hK8 : K ≤ 8 := by omega
  rw [← hK]
  clear hlv hks hlt hif hb hbl hlb hSb hK h0 hel h8
  have hta : ∀ (v : Value) (W : World), (Instr.typeAssert (.iface 115 v) 59 115 true).run Tryz.prog W = .ok (.tuple #[v, .bool true]) W := fun v W => by kernel_rfl
  go_enter Tryz.func32, Tryz.ntmps32
  go_wp2
  go_loopw [18] (fun s wr => ∃ j : Nat, j ≤ K ∧ s = .int .i64 j ∧ LstAt wr w.heap.size b j ∧ Chg b w wr) (fun s _ => K - (intOf s).toNat)
  case atStart => exact ⟨0, by omega, rfl, H0.out, Chg.refl _ _⟩
  case round =>
    obtain ⟨j, hj, rfl, hla, hch⟩ := hrel
    by_cases he : j < K
    · have hltk : (j : Int) < (K : Int) := by omega
      obtain ⟨g2, p2, f1, f2, f3, f4, f5, f6, f7⟩ := HKS.out.get j (by have := HK.out; omega)
      subst f1
      obtain ⟨y, hy⟩ : ∃ y, y = ks[j]'(by have := HK.out; omega) := ⟨_, rfl⟩
      have hyl : y < es.length := by rw [hy]; exact HLT.out _ (List.getElem_mem _)
      rw [← hy] at f7
      obtain ⟨g3, p3, d1, d2, d3, d4, d5, d6⟩ := HLV.out.get y hyl
      subst d1
      obtain ⟨ty, uy, hty⟩ := HIF.out es[y] (List.getElem_mem hyl)
      rw [hty] at d6
      have k1 : wr.cell? ⟨g2, p2 + j, none⟩ = some (.int .i64 y) := (hch.cell (p := ⟨g2, p2 + j, none⟩) f6 (fun e => HSB.out (by rw [← e]; exact f5))).trans f7
      have k2 : wr.cell? ⟨g3, p3 + y, none⟩ = some (.iface ty uy) := (hch.cell (p := ⟨g3, p3 + y, none⟩) d5 (fun e => HLB.out (by show some g3 = some b; rw [show g3 = b from e]))).trans d6
      have HA := Lib.hid (ListAppend_any w.heap.size b j ty uy wr hla HBL.out (by omega) hch.size)
      have hyl2 : (y : Int) < (es.length : Int) := by omega
      have HCH := Lib.hid hch
      have hKc : K ≤ kc := by have := HK.out; omega
      obtain ⟨E, hE⟩ : ∃ E, E = es.length := ⟨_, rfl⟩
      rw [← hE] at hyl2 d3
      rw [← hE]
      clear f2 f3 f4 f5 f6 f7 hy d2 d4 d5 d6 hla hch hE hyl hty
      go_wp2_with fail
      refine HA.out.mono ?_
      rintro e w2 ⟨rfl, hl2, hb2, hkk⟩
      have HL2 := Lib.hid hl2
      have HC2 := Lib.hid (show Chg b w w2 from ⟨hb2.os.trans HCH.out.os, hb2.tape.trans HCH.out.tape, hb2.output.trans HCH.out.output, Nat.le_trans HCH.out.size hb2.size, fun k hk hne => by
        rcases Nat.lt_or_ge k b with h1 | h1
        · exact (hb2.block k h1).trans (HCH.out.block k hk hne)
        · exact (hkk k (by omega) hk).trans (HCH.out.block k hk hne)⟩)
      clear hl2 hb2 hkk
      go_wp2
      go_round
      case rel => exact ⟨j + 1, by omega, by go_num, HL2.out, HC2.out⟩
      case measure => simp [intOf]; omega
    · have hge : ¬ ((j : Int) < (K : Int)) := by omega
      have HCH := Lib.hid hch
      clear hla hch
      go_wp2
      go_ret
      exact ⟨rfl, HCH.out⟩

set_option maxRecDepth 100000 in
set_option maxHeartbeats 8000000 in
theorem filled_dic (lv kv : Value) (es : List Value) (ks : List Nat) (ts : List Tr) (S : Nat → Prop) (b : Nat) (w : World) (hlv : RowV w lv es) (hks : NumsB w S kv ks) (he : ks.length % 2 = 0) (h8 : ks.length ≤ 8) (hlt : ∀ k ∈ ks, k < es.length) (hel : es.length ≤ 1000)
    (hb : w.heap[b]? = some (.cells htZero 143 (0, 0))) (hlb : lv.ownBlock ≠ some b) (hSb : ¬ S b) (hif : ∀ u ∈ es, ∃ t x, u = .iface t x)
    (hts : ts.length = ks.length / 2) (hK : ∀ t ∈ ts, KeyT 10 t ∧ Slim 10 t) (hA : Apart 10 ts) (hkt : ∀ W, Chg b w W → KT W ∧ CL W)
    (hR : ∀ W, Chg b w W → ∀ q (h : q < ts.length) (h2 : 2 * q < ks.length) (h3 : ks[2 * q] < es.length), StarAt W 10 es[ks[2 * q]] ts[q]) :
    Calls Tryz.prog 32 #[lv, .iface 122 (.pointer (some ⟨b, 0, none⟩)), kv] w (FilIs b w) := by
  obtain ⟨aa, ac, rfl⟩ := hlv.shape
  obtain ⟨ka, kc, rfl⟩ := hks.shape
  have hbl := (Array.getElem?_eq_some_iff.1 hb).1
  obtain ⟨K, hKK⟩ : ∃ K, K = ks.length := ⟨_, rfl⟩
  obtain ⟨R, hRR⟩ : ∃ R : Value → Tr → Prop, R = fun u T => ∀ W, Chg b w W → StarAt W 10 u T := ⟨_, rfl⟩
  obtain ⟨kt, hktt⟩ : ∃ kt : Nat → Tr, kt = fun i => ts.getD i .non := ⟨_, rfl⟩
  have h0 : TabIn R 10 b 0 kt w := TabIn.begin hb
  have HIN := Lib.hid (show ∀ (q : Nat) (kv' : Value) (tv : Nat) (uv : Value) (wr : World), q < ts.length → TabIn R 10 b q kt wr → Chg b w wr → R kv' (kt q) → Calls Tryz.prog 60 #[.pointer (some ⟨b, 0, none⟩), kv', .iface tv uv] wr fun e w' => e = .returned .nilIface ∧ TabIn R 10 b (q + 1) kt w' ∧ Chg b wr w' from fun q kv' tv uv wr hq ht hc hr => by
    have hgd : ∀ i (h : i < ts.length), kt i = ts[i] := fun i h => by rw [hktt]; simp [h]
    refine SetKey_of b kv' (.iface tv uv) (fun w' => TabIn R 10 b (q + 1) kt w' ∧ Chg b wr w') wr (insert_chg R 10 b q kt wr kv' tv uv (by omega) (by omega) (fun W hcw u T h => by rw [hRR] at h; exact h W (hc.trans hcw)) ht hr (fun i hi => by rw [hgd i (by omega)]; exact hK _ (List.getElem_mem _)) (fun i hi => ?_) (fun W hcw => hkt W (hc.trans hcw)))
    have := hA.get i q hi hq
    rw [hktt]; exact this)
  have HR := Lib.hid (show ∀ (q : Nat) (h : q < ts.length) (h2 : 2 * q < ks.length) (h3 : ks[2 * q] < es.length), R es[ks[2 * q]] (kt q) from fun q h h2 h3 => by
    rw [hRR, hktt]
    intro W hc
    have := hR W hc q h h2 h3
    simpa [h] using this)
  have HLV := Lib.hid hlv; have HKS := Lib.hid hks; have HLT := Lib.hid hlt; have HIF := Lib.hid hif; have HB := Lib.hid hb; have HBL := Lib.hid hbl; have HLB := Lib.hid hlb; have HSB := Lib.hid hSb; have HK := Lib.hid hKK; have H0 := Lib.hid h0; have HEL := Lib.hid hel
  have HTS := Lib.hid hts
  have HE := Lib.hid he
  have hK8 : K ≤ 8 := by omega
  rw [← hKK]
  clear hlv hks hlt hif hb hbl hlb hSb hKK h0 hel h8 hR hRR hktt hK hA hkt hts he
  have hta : ∀ (v : Value) (W : World), (Instr.typeAssert (.iface 122 v) 59 115 true).run Tryz.prog W = .ok (.tuple #[.pointer none, .bool false]) W := fun v W => by kernel_rfl
  have htb : ∀ (v : Value) (W : World), (Instr.typeAssert (.iface 122 v) 59 122 true).run Tryz.prog W = .ok (.tuple #[v, .bool true]) W := fun v W => by kernel_rfl
  go_enter Tryz.func32, Tryz.ntmps32
  go_wp2
  go_loopw [11] (fun s wr => ∃ q : Nat, 2 * q ≤ K ∧ s = .int .i64 ((2 * q : Nat) : Int) ∧ TabIn R 10 b q kt wr ∧ Chg b w wr) (fun s _ => K - (intOf s).toNat)
  case atStart => exact ⟨0, by omega, rfl, H0.out, Chg.refl _ _⟩
  case round =>
    obtain ⟨q, hq, rfl, htb2, hch⟩ := hrel
    by_cases he : 2 * q < K
    · obtain ⟨j, hjq⟩ : ∃ j, j = 2 * q := ⟨_, rfl⟩
      obtain ⟨m, hmj⟩ : ∃ m, m = j + 1 := ⟨_, rfl⟩
      have hmK : m < K := by have := HE.out; have := HK.out; omega
      have hmi : (m : Int) < (K : Int) := by omega
      have HQ2 := Lib.hid (show 2 * (q + 1) ≤ K by omega)
      have hji : (j : Int) < (K : Int) := by omega
      have hw1 : IntKind.i64.wrap ((j : Int) + 1) = (m : Int) := by simp only [IntKind.wrap_i64]; omega
      have hw2 : wrap64 ((j : Int) + 1) = (m : Int) := by unfold wrap64; omega
      have hkj : 2 * q < ks.length := by have := HK.out; omega
      have hkm : m < ks.length := by have := HK.out; omega
      obtain ⟨g2, p2, f1, f2, f3, f4, f5, f6, f7⟩ := HKS.out.get (2 * q) hkj
      subst f1
      obtain ⟨g2', p2', f1', _, _, _, _, _, f8⟩ := HKS.out.get m hkm
      injection f1' with f1'
      injection f1' with f1' f1''
      subst f1'; subst f1''
      obtain ⟨y, hy⟩ : ∃ y, y = ks[2 * q] := ⟨_, rfl⟩
      obtain ⟨z, hz⟩ : ∃ z, z = ks[m] := ⟨_, rfl⟩
      have hyl : y < es.length := by rw [hy]; exact HLT.out _ (List.getElem_mem _)
      have hzl : z < es.length := by rw [hz]; exact HLT.out _ (List.getElem_mem _)
      rw [← hy] at f7
      rw [← hz] at f8
      obtain ⟨g3, p3, d1, d2, d3, d4, d5, d6⟩ := HLV.out.get y hyl
      subst d1
      obtain ⟨g3', p3', d1', _, _, _, _, d8⟩ := HLV.out.get z hzl
      injection d1' with d1'
      injection d1' with d1' d1''
      subst d1'; subst d1''
      obtain ⟨ty, uy, hty⟩ := HIF.out es[y] (List.getElem_mem hyl)
      obtain ⟨tz, uz, htz⟩ := HIF.out es[z] (List.getElem_mem hzl)
      have hRy : R (.iface ty uy) (kt q) := by
        have := HR.out q (by have := HTS.out; omega) hkj (by rw [← hy]; exact hyl)
        simp only [← hy] at this
        rw [hty] at this; exact this
      rw [hty] at d6
      rw [htz] at d8
      rw [← hjq] at f7
      have hyi : (y : Int) < (es.length : Int) := by omega
      have hzi : (z : Int) < (es.length : Int) := by omega
      have htbd : TabIn R 10 b q kt wr.drew := by
        obtain ⟨K', V', laid', h1, h2, h3⟩ := htb2
        exact ⟨K', V', laid', h1, h2.drew, h3⟩
      have hchd : Chg b w wr.drew := ⟨hch.os, hch.tape, hch.output, hch.size, hch.block⟩
      have HC := Lib.hid (HIN.out q (.iface ty uy) tz uz wr.drew (by have := HTS.out; omega) htbd hchd hRy)
      have HCHD := Lib.hid hchd; have HCH0 := Lib.hid hch
      have hKc : K ≤ kc := by have := HK.out; omega
      obtain ⟨E, hE⟩ : ∃ E, E = es.length := ⟨_, rfl⟩
      rw [← hE] at hyi hzi d3
      rw [← hE]
      have HJQ := Lib.hid hjq
      have HSV := Lib.hid (show ∀ W, Chg b w W → W.cell? ⟨g2, p2 + j, none⟩ = some (.int .i64 y) ∧ W.cell? ⟨g2, p2 + m, none⟩ = some (.int .i64 z) ∧ W.cell? ⟨g3, p3 + y, none⟩ = some (.iface ty uy) ∧ W.cell? ⟨g3, p3 + z, none⟩ = some (.iface tz uz) from fun W hc =>
        ⟨(hc.cell (p := ⟨g2, p2 + j, none⟩) f6 (fun e => HSB.out (by rw [← e]; exact f5))).trans f7, (hc.cell (p := ⟨g2, p2 + m, none⟩) f6 (fun e => HSB.out (by rw [← e]; exact f5))).trans f8, (hc.cell (p := ⟨g3, p3 + y, none⟩) d5 (fun e => HLB.out (by show some g3 = some b; rw [show g3 = b from e]))).trans d6, (hc.cell (p := ⟨g3, p3 + z, none⟩) d5 (fun e => HLB.out (by show some g3 = some b; rw [show g3 = b from e]))).trans d8⟩)
      rw [← hjq]
      clear f2 f3 f4 f5 f6 f7 f8 hy hz d2 d4 d5 d6 d8 hchd htbd htb2 hch hE hyl hzl hty htz hRy hmK hkj hkm hmj hjq he
      obtain ⟨k1, k2, k3, k4⟩ := HSV.out wr HCH0.out
      go_wp2
      go_region_held3 (fun W => W.cell? ⟨g2, p2 + j, none⟩ = some (.int .i64 y) ∧ W.cell? ⟨g2, p2 + m, none⟩ = some (.int .i64 z) ∧ W.cell? ⟨g3, p3 + y, none⟩ = some (.iface ty uy) ∧ W.cell? ⟨g3, p3 + z, none⟩ = some (.iface tz uz)) (first | exact HSV.out _ HCHD.out | exact HSV.out _ (HCHD.out.trans HC5.out)) (first | (go_simp; go_at_call 60; (with_reducible refine HC.out.mono ?_); rintro e w5 ⟨rfl, ht5, hc5⟩; have HT5 := Lib.hid ht5; have HC5 := Lib.hid hc5; clear ht5 hc5))
      all_goals (
        go_wp2
        go_round
        case rel => exact ⟨q + 1, HQ2.out, by have := HJQ.out; go_num, HT5.out, HCHD.out.trans HC5.out⟩
        case measure => simp [intOf]; omega)
    · have hge : ¬ (((2 * q : Nat) : Int) < (K : Int)) := by omega
      have hqe : 2 * q = K := by have := HE.out; have := HK.out; omega
      have hlen : wr.cell? ⟨b, 42, none⟩ = some (.int .u32 q) := by
        obtain ⟨K', V', laid', h1, h2, h3⟩ := htb2
        exact h2.cell (i := 42) (by omega)
      have HD := Lib.hid (DictLen_any b q wr hlen (by omega))
      have HCH := Lib.hid hch
      have h2q : IntKind.i64.wrap (2 * (q : Int)) = (K : Int) := by simp only [IntKind.wrap_i64]; omega
      have h2w : wrap64 (2 * (q : Int)) = (K : Int) := by unfold wrap64; omega
      clear htb2 hch hlen he hqe
      go_wp2_with fail
      refine HD.out.mono ?_
      rintro e w2 ⟨rfl, rfl⟩
      go_wp2
      go_ret
      exact ⟨by simp, HCH.out⟩
end Go.Proofs.YtpcleebnfgnhdaaGreatDoor

/- For impl.graph's walk: the values made so far. -/
set_option linter.unusedVariables false
set_option linter.unusedSimpArgs false
namespace Go.Proofs.YtpcleebnfgnhdaaGreatDoor
open Go.RowKit
open Num

/-- it is the list or the dict in block b -/
def Bx (v : Value) (b : Nat) : Prop := v = .iface 115 (.pointer (some ⟨b, 0, none⟩)) ∨ v = .iface 122 (.pointer (some ⟨b, 0, none⟩))
theorem Bx.inj {v : Value} {b b' : Nat} (h : Bx v b) (h2 : Bx v b') : b = b' := by
  rcases h with rfl | rfl
  · rcases h2 with h2 | h2
    · injection h2 with _ h2; injection h2 with h2; injection h2 with h2; injection h2
    · injection h2 with h2 _; exact absurd h2 (by decide)
  · rcases h2 with h2 | h2
    · injection h2 with h2 _; exact absurd h2 (by decide)
    · injection h2 with _ h2; injection h2 with h2; injection h2 with h2; injection h2
theorem NoLD.bx {t : TypeId} {u : Value} (h : NoLD t u) {b : Nat} : ¬ Bx (.iface t u) b := fun hb => by
  rcases hb with hb | hb
  · injection hb with hb _; exact h.1 hb
  · injection hb with hb _; exact h.2.1 hb
/-- the values made so far -/
structure GUp (N : List Nd) (base : Nat) (es : List Value) (s : Value) (wr : World) : Prop where
  own : wr.ownsRow base 59 1 s es.length es
  fact : ∀ k (h : k < es.length), NodeFact N base es s.ownBlock wr k es[k]
  shape : ∀ k (h : k < es.length), (∃ b, NewLst wr b es[k] ∧ base ≤ b ∧ s.ownBlock ≠ some b ∧ ∀ x, N[k]? = some x → x.T.kind = 6) ∨ (∃ b, NewDic wr b es[k] ∧ base ≤ b ∧ s.ownBlock ≠ some b ∧ ∀ x, N[k]? = some x → x.T.kind = 8) ∨ (∃ t u, es[k] = .iface t u ∧ NoLD t u)
  dist : ∀ k k' (h : k < es.length) (h' : k' < es.length) b, Bx es[k] b → Bx es[k'] b → k = k'
theorem GUp.bx {N : List Nd} {base : Nat} {es : List Value} {s : Value} {wr : World} (h : GUp N base es s wr) {k : Nat} (hk : k < es.length) {b : Nat} (hb : Bx es[k] b) : base ≤ b ∧ b < wr.heap.size ∧ s.ownBlock ≠ some b := by
  rcases h.shape k hk with ⟨b', ⟨h1, h2⟩, h3, h4, _⟩ | ⟨b', ⟨h1, h2⟩, h3, h4, _⟩ | ⟨t, u, h1, h2⟩
  · obtain rfl := hb.inj (.inl h1)
    exact ⟨h3, (Array.getElem?_eq_some_iff.1 h2).1, h4⟩
  · obtain rfl := hb.inj (.inr h1)
    exact ⟨h3, (Array.getElem?_eq_some_iff.1 h2).1, h4⟩
  · rw [h1] at hb
    exact (h2.bx hb).elim
theorem GUp.mut {N : List Nd} {base : Nat} {es : List Value} {s : Value} {wr : World} (h : GUp N base es s wr) {b : Nat} (hb : Mut es b) : ∃ k, ∃ hk : k < es.length, Bx es[k] b := by
  obtain ⟨v, hv, hb⟩ := hb
  obtain ⟨k, hk, rfl⟩ := List.getElem_of_mem hv
  exact ⟨k, hk, hb⟩
theorem GUp.faces {N : List Nd} {base : Nat} {es : List Value} {s : Value} {wr : World} (h : GUp N base es s wr) : ∀ u ∈ es, ∃ t x, u = .iface t x := fun u hu => by
  obtain ⟨k, hk, rfl⟩ := List.getElem_of_mem hu
  rcases h.shape k hk with ⟨b, ⟨h1, _⟩, _⟩ | ⟨b, ⟨h1, _⟩, _⟩ | ⟨t, u, h1, _⟩
  · exact ⟨_, _, h1⟩
  · exact ⟨_, _, h1⟩
  · exact ⟨t, u, h1⟩
theorem GUp.nil (N : List Nd) (w : World) : GUp N w.heap.size [] (.slice none 0 0) w :=
  ⟨World.ownsRow_nil w _ _ 1, fun k h => absurd h (by simp), fun k h => absurd h (by simp), fun k _ h => absurd h (by simp)⟩
/-- in worlds that keep the blocks -/
theorem GUp.good {N : List Nd} {base : Nat} {es : List Value} {s : Value} {wr W : World} (h : GUp N base es s wr) (hb : Below wr.heap.size wr W) (k : Nat) (hk : k < es.length) : Good N k es[k] W :=
  h.fact k hk W hb.size (fun b _ hl _ _ => hb.block b hl)
/-- one more -/
theorem GUp.push {N : List Nd} {base : Nat} {es : List Value} {s s' : Value} {wr w' w8 w7 : World} {t : TypeId} {u : Value} (h : GUp N base es s wr) (hbw : base ≤ wr.heap.size) (hN : es.length < N.length)
    (hb : Below wr.heap.size wr w')
    (hm : (∃ b, wr.heap.size ≤ b ∧ NewLst w' b (.iface t u) ∧ ∀ x, N[es.length]? = some x → x.T.kind = 6) ∨ (∃ b, wr.heap.size ≤ b ∧ NewDic w' b (.iface t u) ∧ ∀ x, N[es.length]? = some x → x.T.kind = 8) ∨
     (NoLD t u ∧ (∀ x, N[es.length]? = some x → x.T.kind ≠ 6 ∧ x.T.kind ≠ 8) ∧ ∀ W, w'.heap.size ≤ W.heap.size → (∀ b, wr.heap.size ≤ b → b < w'.heap.size → W.heap[b]? = w'.heap[b]?) → (∀ k (h : k < es.length), ∀ W2, Below W.heap.size W W2 → Good N k es[k] W2) → Good N es.length (.iface t u) W))
    (hw8 : Below w'.heap.size w' w8) (hown : w7.ownsRow base 59 1 s' (es.length + 1) (es ++ [.iface t u])) (hg : w8.grownBy w7 s.ownBlock) (hat : s'.ownBlock = s.ownBlock ∨ s'.ownBlock = some w8.heap.size) : GUp N base (es ++ [.iface t u]) s' w7 := by
  have hso : ∀ b, s.ownBlock = some b → base ≤ b ∧ b < wr.heap.size := own_block h.own
  have hs1 := hb.size
  have hs2 := hw8.size
  have hs3 := hg.size
  have old : ∀ b, b < wr.heap.size → some b ≠ s.ownBlock → w7.heap[b]? = wr.heap[b]? := fun b hl hne => (hg.block b (by omega) hne).trans ((hw8.block b (by omega)).trans (hb.block b hl))
  have new : ∀ b, wr.heap.size ≤ b → b < w'.heap.size → w7.heap[b]? = w'.heap[b]? := fun b hl hl2 => (hg.block b (by omega) (fun e => by have := hso b e.symm; omega)).trans (hw8.block b hl2)
  have hnb : ∀ b, Bx (.iface t u) b → wr.heap.size ≤ b ∧ b < w'.heap.size := fun b hbx => by
    rcases hm with ⟨b', h1, ⟨h2, h3⟩, _⟩ | ⟨b', h1, ⟨h2, h3⟩, _⟩ | ⟨h1, _⟩
    · obtain rfl := hbx.inj (.inl h2)
      exact ⟨h1, (Array.getElem?_eq_some_iff.1 h3).1⟩
    · obtain rfl := hbx.inj (.inr h2)
      exact ⟨h1, (Array.getElem?_eq_some_iff.1 h3).1⟩
    · exact (h1.bx hbx).elim
  have hmu : ∀ b, b < wr.heap.size → Mut (es ++ [.iface t u]) b → Mut es b := fun b hl ⟨v, hv, hvb⟩ => by
    rcases List.mem_append.1 hv with hv | hv
    · exact ⟨v, hv, hvb⟩
    · obtain rfl : v = .iface t u := by simpa using hv
      have := hnb b hvb
      omega
  have hso' : ∀ b, s'.ownBlock = some b → b < wr.heap.size ∧ s.ownBlock = some b ∨ w'.heap.size ≤ b := fun b e => by
    rcases hat with h1 | h1
    · exact .inl ⟨(hso b (h1.symm.trans e)).2, h1.symm.trans e⟩
    · rw [h1] at e
      obtain rfl := Option.some.inj e
      exact .inr hs2
  have hof : ∀ k (hk : k < es.length), NodeFact N base (es ++ [.iface t u]) s'.ownBlock w7 k es[k] := fun k hk =>
    (h.fact k hk).grow (by omega) (fun b _ hl hne => old b hl hne) hmu (hat.imp id (fun e => ⟨_, e, by omega⟩))
  refine ⟨by rw [List.length_append]; exact hown, fun k hk => ?_, fun k hk => ?_, fun k k' hk hk' b hb1 hb2 => ?_⟩
  · by_cases e : k < es.length
    · rw [List.getElem_append_left e]
      exact hof k e
    · have hke : k = es.length := by simp at hk; omega
      subst hke
      rw [List.getElem_append_right (Nat.le_refl _)]
      simp only [Nat.sub_self, List.getElem_singleton]
      obtain ⟨x, hx⟩ : ∃ x, N[es.length]? = some x := ⟨_, List.getElem?_eq_getElem hN⟩
      rcases hm with ⟨b', h1, ⟨h2, h3⟩, h4⟩ | ⟨b', h1, ⟨h2, h3⟩, h4⟩ | ⟨h1, h2, h3⟩
      · rw [h2]
        exact fun W _ _ => good_box hx (by rw [h4 x hx]; decide) (by rw [h4 x hx]; decide) (can_lst b' W)
      · rw [h2]
        exact fun W _ _ => good_box hx (by rw [h4 x hx]; decide) (by rw [h4 x hx]; decide) (can_dic b' W)
      · intro W hW1 hW2
        refine h3 W (by omega) (fun b hl hl2 => ?_) (fun k hk W2 hb2 => hof k hk W2 (Nat.le_trans hW1 hb2.size) (fun b hb1 hl hm hne => (hb2.block b (by omega)).trans (hW2 b hb1 hl hm hne)))
        refine (hW2 b (by omega) (by omega) (fun hmm => ?_) (fun e => ?_)).trans (new b hl hl2)
        · obtain ⟨v, hv, hvb⟩ := hmm
          rcases List.mem_append.1 hv with hv | hv
          · obtain ⟨q, hq, rfl⟩ := List.getElem_of_mem hv
            have := h.bx hq hvb
            omega
          · obtain rfl : v = .iface t u := by simpa using hv
            exact h1.bx hvb
        · rcases hso' b e.symm with h5 | h5 <;> omega
  · by_cases e : k < es.length
    · rw [List.getElem_append_left e]
      have keep : ∀ b, base ≤ b → b < wr.heap.size → s.ownBlock ≠ some b → s'.ownBlock ≠ some b := fun b _ hl hne e2 => by
        rcases hso' b e2 with h5 | h5
        · exact hne h5.2
        · omega
      rcases h.shape k e with ⟨b', ⟨h1, h2⟩, h3, h4, h5⟩ | ⟨b', ⟨h1, h2⟩, h3, h4, h5⟩ | ⟨t, u, h1, h2⟩
      · have hl := (Array.getElem?_eq_some_iff.1 h2).1
        exact .inl ⟨b', ⟨h1, (old b' hl (fun e => h4 e.symm)).trans h2⟩, h3, keep b' h3 hl h4, h5⟩
      · have hl := (Array.getElem?_eq_some_iff.1 h2).1
        exact .inr (.inl ⟨b', ⟨h1, (old b' hl (fun e => h4 e.symm)).trans h2⟩, h3, keep b' h3 hl h4, h5⟩)
      · exact .inr (.inr ⟨t, u, h1, h2⟩)
    · have hke : k = es.length := by simp at hk; omega
      subst hke
      rw [List.getElem_append_right (Nat.le_refl _)]
      simp only [Nat.sub_self, List.getElem_singleton]
      have keep : ∀ b, wr.heap.size ≤ b → b < w'.heap.size → s'.ownBlock ≠ some b := fun b hl hl2 e2 => by
        rcases hso' b e2 with h5 | h5 <;> omega
      rcases hm with ⟨b', h1, ⟨h2, h3⟩, h4⟩ | ⟨b', h1, ⟨h2, h3⟩, h4⟩ | ⟨h1, h2, h3⟩
      · have hl := (Array.getElem?_eq_some_iff.1 h3).1
        exact .inl ⟨b', ⟨h2, (new b' h1 hl).trans h3⟩, by omega, keep b' h1 hl, h4⟩
      · have hl := (Array.getElem?_eq_some_iff.1 h3).1
        exact .inr (.inl ⟨b', ⟨h2, (new b' h1 hl).trans h3⟩, by omega, keep b' h1 hl, h4⟩)
      · exact .inr (.inr ⟨t, u, rfl, h1⟩)
  · have hsplit : ∀ k (hk : k < (es ++ [Value.iface t u]).length), Bx (es ++ [Value.iface t u])[k] b → (∃ h : k < es.length, Bx es[k] b) ∨ (k = es.length ∧ Bx (.iface t u) b) := fun k hk hb => by
      by_cases e : k < es.length
      · rw [List.getElem_append_left e] at hb
        exact .inl ⟨e, hb⟩
      · have hke : k = es.length := by simp at hk; omega
        subst hke
        rw [List.getElem_append_right (Nat.le_refl _)] at hb
        simp only [Nat.sub_self, List.getElem_singleton] at hb
        exact .inr ⟨rfl, hb⟩
    rcases hsplit k hk hb1 with ⟨e1, h1⟩ | ⟨e1, h1⟩
    · rcases hsplit k' hk' hb2 with ⟨e2, h2⟩ | ⟨e2, h2⟩
      · exact h.dist k k' e1 e2 b h1 h2
      · have := (h.bx e1 h1).2.1
        have := (hnb b h2).1
        omega
    · rcases hsplit k' hk' hb2 with ⟨e2, h2⟩ | ⟨e2, h2⟩
      · have := (h.bx e2 h2).2.1
        have := (hnb b h1).1
        omega
      · omega

/-- the first j of them are filled -/
structure GFil (es : List Value) (j : Nat) (w2 wr : World) : Prop where
  os : wr.os = w2.os
  tape : wr.tape = w2.tape
  output : wr.output = w2.output
  size : w2.heap.size ≤ wr.heap.size
  block : ∀ b, b < w2.heap.size → (∀ k (h : k < es.length), k < j → ¬ Bx es[k] b) → wr.heap[b]? = w2.heap[b]?
theorem GFil.begin (es : List Value) (w : World) : GFil es 0 w w := ⟨rfl, rfl, rfl, Nat.le_refl _, fun _ _ _ => rfl⟩
theorem GFil.step {es : List Value} {j b : Nat} {w2 wr w3 w5 : World} (h : GFil es j w2 wr) (hb : Below wr.heap.size wr w3) (hc : Chg b w3 w5) (hbj : w2.heap.size ≤ b ∨ ∃ hj : j < es.length, Bx es[j] b) : GFil es (j + 1) w2 w5 := by
  have hs1 := hb.size
  have hs2 := h.size
  refine ⟨hc.os.trans (hb.os.trans h.os), hc.tape.trans (hb.tape.trans h.tape), hc.output.trans (hb.output.trans h.output), Nat.le_trans h.size (Nat.le_trans hb.size hc.size), fun b' hl hn => ?_⟩
  refine (hc.block b' (by omega) (fun e => ?_)).trans ((hb.block b' (by omega)).trans (h.block b' hl (fun k hk hkj => hn k hk (by omega))))
  subst e
  rcases hbj with h1 | ⟨hj, h1⟩
  · omega
  · exact hn j hj (by omega) h1
theorem GFil.below {es : List Value} {j : Nat} {w2 wr W : World} (h : GFil es j w2 wr) (hb : Below wr.heap.size wr W) : GFil es j w2 W :=
  ⟨hb.os.trans h.os, hb.tape.trans h.tape, hb.output.trans h.output, Nat.le_trans h.size hb.size, fun b hl hn => (hb.block b (Nat.lt_of_lt_of_le hl h.size)).trans (h.block b hl hn)⟩
/-- while they are filled the nodes' values stay good -/
theorem GUp.filled {N : List Nd} {base : Nat} {es : List Value} {s : Value} {w2 W : World} {j : Nat} (h : GUp N base es s w2) (hf : GFil es j w2 W) (k : Nat) (hk : k < es.length) : Good N k es[k] W :=
  h.fact k hk W hf.size (fun b hb hl hm _ => hf.block b hl (fun q hq _ hx => hm ⟨_, List.getElem_mem hq, hx⟩))
theorem GFil.base {N : List Nd} {base : Nat} {es : List Value} {s : Value} {w w2 W : World} {j : Nat} (hf : GFil es j w2 W) (h : GUp N base es s w2) (hb : Below base w w2) (hs : base ≤ w2.heap.size) : Below base w W :=
  ⟨hf.os.trans hb.os, hf.tape.trans hb.tape, hf.output.trans hb.output, Nat.le_trans hb.size hf.size, fun b hl => (hf.block b (by omega) (fun k hk _ hx => by have := (h.bx hk hx).1; omega)).trans (hb.block b hl)⟩
theorem GUp.row {N : List Nd} {base : Nat} {es : List Value} {s : Value} {wB W : World} {j : Nat} (hu : GUp N base es s wB) (hf : GFil es j wB W) : RowV W s es := by
  refine rowV_of (base := base) (t := 59) (n := es.length) ⟨hu.own.1, ?_⟩
  rcases hu.own.2 with h | ⟨g, cap, cur, e, hbg, hg, rest⟩
  · exact .inl h
  · exact .inr ⟨g, cap, cur, e, hbg, (hf.block g (Array.getElem?_eq_some_iff.1 hg).1 (fun k hk _ hx => (hu.bx hk hx).2.2 (by rw [e]; rfl))).trans hg, rest⟩
theorem evens_length : ∀ (l : List Nat), (evens l).length = l.length / 2
  | [] => rfl
  | [x] => by simp [evens]
  | x :: y :: l => by
    have := evens_length l
    simp only [evens, List.length_cons, this]
    omega
theorem NodeOK.dict {N : List Nd} {n i : Nat} {x : Nd} (h : NodeOK N n i x) (hk : x.T.kind = 8) : x.ks.length % 2 = 0 ∧ ∃ ts, KeysAre N i (evens x.ks) ts := by
  obtain ⟨_, _, h⟩ := h
  cases hT : x.T <;> rw [hT] at h hk <;> first | exact h | (exfalso; simp [Tr.kind] at hk; done)
/-- a node's value is filled -/
theorem filled_node {N : List Nd} {S : Nat → Prop} {base : Nat} {es : List Value} {s : Value} {w wB W : World} {j : Nat} (hu : GUp N base es s wB) (hf : GFil es j wB W) (hN : GraphOK N N.length) (hel : es.length = N.length) (hl : N.length ≤ 900) (hj : j < N.length) {kv : Value} (hks : NumsB W S kv N[j].ks)
    (hSb : ∀ b, S b → b < base) (hkt : KT w) (hcl : CL w) (hbase : Below base w wB) (hwb : w.heap.size ≤ base) (hbs : base ≤ wB.heap.size) :
    ∃ b t u, es[j]? = some (.iface t u) ∧ (wB.heap.size ≤ b ∨ ∃ hj : j < es.length, Bx es[j] b) ∧ Calls Tryz.prog 32 #[s, .iface t u, kv] W (FilIs b W) := by
  have hje : j < es.length := by omega
  have hok := hN j N[j] (List.getElem?_eq_getElem hj)
  have hrow : RowV W s es := by
    refine rowV_of (base := base) (t := 59) (n := es.length) ⟨hu.own.1, ?_⟩
    rcases hu.own.2 with h | ⟨g, cap, cur, e, hbg, hg, rest⟩
    · exact .inl h
    · exact .inr ⟨g, cap, cur, e, hbg, (hf.block g (Array.getElem?_eq_some_iff.1 hg).1 (fun k hk _ hx => (hu.bx hk hx).2.2 (by rw [e]; rfl))).trans hg, rest⟩
  have hlt : ∀ k ∈ N[j].ks, k < es.length := fun k hk => by rw [hel]; exact hok.2.1 k hk
  have hkeep : ∀ b, Bx es[j] b → W.heap[b]? = wB.heap[b]? := fun b hb => hf.block b (hu.bx hje hb).2.1 (fun k hk hkj hx => by have := hu.dist k j hk hje b hx hb; omega)
  rcases hu.shape j hje with ⟨b, ⟨h1, h2⟩, h3, h4, _⟩ | ⟨b, ⟨h1, h2⟩, h3, h4, h5⟩ | ⟨t, u, h1, h2⟩
  · have hbx : Bx es[j] b := .inl h1
    exact ⟨b, _, _, by rw [List.getElem?_eq_getElem hje, h1], .inr ⟨hje, hbx⟩, filled_lst s kv es N[j].ks S b W hrow hks hok.1 hlt (by omega) ((hkeep b hbx).trans h2) h4 (fun h => by have := hSb b h; omega) hu.faces⟩
  · have hbx : Bx es[j] b := .inr h1
    obtain ⟨he, ts, hka⟩ := hok.dict (h5 _ (List.getElem?_eq_getElem hj))
    have hal : ts.length = N[j].ks.length / 2 := by rw [hka.len, evens_length]
    have hbel : ∀ W', Chg b W W' → Below base w W' := fun W' hc => Chg.below (hf.base hu hbase hbs) (Nat.le_trans hbs hf.size) hc h3
    refine ⟨b, _, _, by rw [List.getElem?_eq_getElem hje, h1], .inr ⟨hje, hbx⟩, filled_dic s kv es N[j].ks ts S b W hrow hks he hok.1 hlt (by omega) ((hkeep b hbx).trans h2) h4 (fun h => by have := hSb b h; omega) hu.faces hal (fun t ht => ?_) hka.apart (fun W' hc => ⟨hkt.below ((hbel W' hc).mono hwb), hcl.below ((hbel W' hc).mono hwb)⟩) (fun W' hc q hq h2q h3q => ?_)⟩
    · obtain ⟨q, hq, rfl⟩ := List.getElem_of_mem ht
      exact (hka.key q (by rw [evens_length]; omega) hq).2.2
    · obtain ⟨e1, e2⟩ := evens_get N[j].ks (2 * q) h2q he (by omega)
      have hqe : q < (evens N[j].ks).length := by rw [evens_length]; omega
      have hk := hka.key q hqe hq
      have e3 : (evens N[j].ks)[q] = N[j].ks[2 * q] := by
        rw [← e2]
        congr 1
        omega
      rw [e3] at hk
      refine (hu.fact _ h3q W' (Nat.le_trans hf.size hc.size) (fun b' hb' hl' hm _ => ?_)).1 10 ts[q] (treeG_more (fun j x h => take_get h) 10 _ _ hk.2.1) hk.2.2.1
      refine (hc.block b' (Nat.lt_of_lt_of_le hl' hf.size) (fun e => ?_)).trans (hf.block b' hl' (fun k hk _ hx => hm ⟨_, List.getElem_mem hk, hx⟩))
      subst e
      exact hm ⟨_, List.getElem_mem hje, hbx⟩
  · obtain ⟨a, n, e⟩ := hrow.shape
    obtain ⟨a', n', e'⟩ := hks.shape
    exact ⟨wB.heap.size, t, u, by rw [List.getElem?_eq_getElem hje, h1], .inl (Nat.le_refl _), filled_no s kv t u _ W h2 ⟨_, _, _, e⟩ ⟨_, _, _, e'⟩⟩
end Go.Proofs.YtpcleebnfgnhdaaGreatDoor

/- Walks: impl.graph, impl.GraphHash. -/
set_option linter.unusedVariables false
set_option linter.unusedSimpArgs false
namespace Go.Proofs.YtpcleebnfgnhdaaGreatDoor
open Go.RowKit
open Num

/-- what graph leaves -/
def GrpIs (N : List Nd) (w : World) (e : Ending) (w' : World) : Prop :=
  ∃ lv es, e = .returned (.tuple #[lv, .bool true]) ∧ RowV w' lv es ∧ es.length = N.length ∧ (∀ k (h : k < es.length) W, Below w'.heap.size w' W → Good N k es[k] W) ∧ (∀ u ∈ es, ∃ t x, u = .iface t x) ∧ Below w.heap.size w w'

set_option maxRecDepth 100000 in
set_option maxHeartbeats 8000000 in
theorem graph_any (N : List Nd) (S : Nat → Prop) (gs : Value) (root : Nat) (w : World) (hg : GrB w S gs N) (hS : ∀ b, S b → b < w.heap.size) (hN : GraphOK N N.length) (hr : root < N.length) (hl : N.length ≤ 900) (hkt : KT w) (hcl : CL w) :
    Calls Tryz.prog 19 #[.agg #[gs, .int .i64 root]] w (GrpIs N w) := by
  obtain ⟨sa, sc, rfl⟩ := hg.shape
  obtain ⟨n, hnn⟩ : ∃ n, n = N.length := ⟨_, rfl⟩
  have HNN := Lib.hid hnn
  have HG := Lib.hid hg; have HS := Lib.hid hS; have HN := Lib.hid hN; have HKT := Lib.hid hkt; have HCL := Lib.hid hcl; have HL := Lib.hid hl
  obtain ⟨w1, hw1⟩ : ∃ w1, w1 = w.alloc (.cells #[.slice sa n sc, .int .i64 root] 24) := ⟨_, rfl⟩
  have hb1 : Below w.heap.size w w1 := by rw [hw1]; exact below_al0 _ _
  have hs1 : w1.heap.size = w.heap.size + 1 := by rw [hw1]; simp
  have h10 : w1.heap[w.heap.size]? = some (.cells #[.slice sa n sc, .int .i64 root] 24 (0, 0)) := by rw [hw1]; exact heap_alloc_new _ _
  have HZ := Lib.hid (show ∀ W, Below w1.heap.size w1 W → W.cell? ⟨w.heap.size, 0, none⟩ = some (.slice sa n sc) ∧ W.cell? ⟨w.heap.size, 1, none⟩ = some (.int .i64 root) from fun W hb => by
    have h := (hb.block w.heap.size (by omega)).trans h10
    exact ⟨(cell_of_row _ _ 0 _ _ (0, 0) h).trans rfl, (cell_of_row _ _ 1 _ _ (0, 0) h).trans rfl⟩)
  have HW1 := Lib.hid hw1; have HB1 := Lib.hid hb1; have HS1 := Lib.hid hs1
  have l1 : ¬ ((root : Int) < 0) := by omega
  have l2 : ¬ ((n : Int) ≤ (root : Int)) := by omega
  have l3 : decide ((n : Int) ≤ (root : Int)) = false := by simp; omega
  have hn9 : n ≤ 900 := by omega
  have HNOD := Lib.hid (show ∀ (es : List Value) (s : Value) (W : World), GUp N w1.heap.size es s W → Below w1.heap.size w1 W → es.length < N.length → Calls Tryz.prog 31 #[.agg #[.slice sa n sc, .int .i64 root], .int .i64 es.length, s] W (NodeMade N es.length es W) from fun es s W hu hb hlt => by
    rw [hnn]
    have hbw := hb1.trans (hb.mono hb1.size)
    exact node_any N S _ root es.length s es W hN (hg.below hbw) hlt (by omega) (rowV_of hu.own) rfl (fun k hk W2 hb2 => hu.good hb2 k hk) hu.faces (hkt.below hbw) (hcl.below hbw))
  rw [← hnn]
  clear hg hS hN hkt hcl hr hl hw1 hb1 hs1 h10 hnn
  obtain ⟨x0, x1⟩ := HZ.out w1 (Below.refl _ _)
  go_enter Tryz.func19, Tryz.ntmps19
  go_wp2
  rw [← HW1.out]
  go_wp2
  clear x0 x1
  go_loopw [4, 24] (fun s4 s24 wr => ∃ es, es.length ≤ n ∧ s24 = .int .i64 es.length ∧ GUp N w1.heap.size es s4 wr ∧ Below w1.heap.size w1 wr) (fun _ s _ => n - (intOf s).toNat)
  case atStart => exact ⟨[], by simp, rfl, GUp.nil N w1, Below.refl _ _⟩
  case round =>
    obtain ⟨es, hle, rfl, hu, hb⟩ := hrel
    by_cases he : es.length < n
    · have l4 : (es.length : Int) < (n : Int) := by omega
      obtain ⟨x0, x1⟩ := HZ.out wr hb
      have HC := Lib.hid (HNOD.out es u4 wr hu hb (by have := HNN.out; omega))
      have HU := Lib.hid hu; have HB := Lib.hid hb; have HE := Lib.hid he
      clear hu hb hle he
      go_wp2_with fail
      refine HC.out.mono ?_
      rintro e w5 ⟨t, u, rfl, hb5, hm⟩
      have HB5 := Lib.hid hb5; have HM := Lib.hid hm
      clear hb5 hm x0 x1
      go_wp2_with ((with_reducible show wpList _ _ _ _ _ _); refine wpList_append_cell_at rfl (.tmp 36) (.tmp 38) 53 rfl w1.heap.size 59 .nilIface 16 valsUnder valInfo rfl (by decide) u4 es.length es rfl (own_below HU.out.own (HB5.out.trans ((below_al0 w5 _).mono HB5.out.size))) (by have := HE.out; have := HNN.out; have := HL.out; omega) (Nat.le_trans HB.out.size (Nat.le_trans HB5.out.size (below_al0 w5 _).size)) w5.heap.size 1 rfl (.iface t u) ((cell_of_row _ _ 0 _ _ (0, 0) (heap_alloc_new w5 _)).trans rfl) rfl ?_; intro s' w7 HO7 HG7 HA7)
      go_round
      case rel =>
        refine ⟨es ++ [.iface t u], by have := HE.out; simp; omega, by rw [List.length_append]; go_num, HU.out.push HB.out.size (by have := HE.out; have := HNN.out; omega) HB5.out HM.out (below_al0 w5 _) HO7.out HG7.out HA7.out, ?_⟩
        exact grown_below (HB.out.trans ((HB5.out.trans ((below_al0 w5 _).mono HB5.out.size)).mono HB.out.size)) (Nat.le_trans HB.out.size (Nat.le_trans HB5.out.size (below_al0 w5 _).size)) HG7.out (fun b e => (own_block HU.out.own b e).1)
      case measure => simp [intOf]; omega
    · have hge : ¬ ((es.length : Int) < (n : Int)) := by omega
      have hen : es.length = n := by omega
      obtain ⟨x0, x1⟩ := HZ.out wr hb
      obtain ⟨la, lc, hu4⟩ := own_shape hu.own
      subst hu4
      obtain ⟨wB, hwB⟩ : ∃ wB, wB = wr := ⟨_, rfl⟩
      subst hwB
      have HU := Lib.hid hu; have HB := Lib.hid hb; have HEN := Lib.hid hen
      clear hu hb hle he hen HNOD
      go_wp2
      go_loopw [44] (fun s wr => ∃ j : Nat, j ≤ n ∧ s = .int .i64 j ∧ GFil es j wB wr) (fun s _ => n - (intOf s).toNat)
      case atStart => exact ⟨0, by omega, rfl, GFil.begin es wB⟩
      case round =>
        obtain ⟨j, hj, rfl, hf⟩ := hrel
        clear x0 x1
        have hbw : Below w1.heap.size w1 wr := hf.base HU.out HB.out HB.out.size
        by_cases he : j < n
        · have l4 : (j : Int) < (n : Int) := by omega
          have hjN : j < N.length := by have := HNN.out; omega
          obtain ⟨x0, x1⟩ := HZ.out wr hbw
          have hbww := HB1.out.trans (hbw.mono HB1.out.size)
          obtain ⟨g, p, c, e, hc, hc2, hlg, hSg, n1, a1, m1, c1, b1, s1, ka, kc, hcells, hvb, hnums⟩ := (HG.out.below hbww).node j hjN
          rw [← HNN.out] at e hc
          injection e with e1 e2 e3
          subst e1; subst e3
          obtain ⟨q0, q1, q2, q3, q4, q5⟩ := hcells
          obtain ⟨K, hK⟩ : ∃ K, K = N[j].ks.length := ⟨_, rfl⟩
          obtain ⟨kd, hkd⟩ : ∃ kd, kd = N[j].T.kind := ⟨_, rfl⟩
          rw [← hK] at q5 hnums
          rw [← hkd] at q0
          have HNU := Lib.hid hnums; have HF := Lib.hid hf; have HBW := Lib.hid hbw
          have hrow := HU.out.row hf
          obtain ⟨gl, pl, d1, d2, d3, d4, d5, d6⟩ := hrow.get j (by have := HEN.out; omega)
          subst d1
          have hwd : Below wr.heap.size wr (wr.alloc (.cells #[.int .i64 kd, .bool n1, .slice a1 m1 c1, .int .u64 b1, .string s1, .slice ka K kc] 48)).drew := (below_al0 wr _).drew
          obtain ⟨b, t, u, f1, f2, f3⟩ := filled_node (W := (wr.alloc (.cells #[.int .i64 kd, .bool n1, .slice a1 m1 c1, .int .u64 b1, .string s1, .slice ka K kc] 48)).drew) (kv := .slice ka K kc) HU.out (hf.below hwd) HN.out (by rw [HEN.out]; exact HNN.out) (by have := HNN.out; omega) hjN (hnums.turn (fun _ h => h) hwd.size (fun b _ hl => hwd.block b hl)) (fun b hb => by have := HS.out b hb; have := HS1.out; omega) (HKT.out.below HB1.out) (HCL.out.below HB1.out) HB.out (Nat.le_refl _) HB.out.size
          have f1' : es[j]'(by have := HEN.out; omega) = .iface t u := by
            rw [List.getElem?_eq_getElem (by have := HEN.out; omega)] at f1
            exact Option.some.inj f1
          rw [f1'] at d6
          have d7 := ((below_al0 wr (.cells #[.int .i64 kd, .bool n1, .slice a1 m1 c1, .int .u64 b1, .string s1, .slice ka K kc] 48)).cell (p := ⟨gl, pl + j, none⟩) d5).trans d6
          have HC := Lib.hid f3; have HF2 := Lib.hid f2
          have hlc : n ≤ lc := by have := HEN.out; omega
          have hel : (es.length : Int) = (n : Int) := by have := HEN.out; omega
          have l5 : (j : Int) < (es.length : Int) := by omega
          clear hel f1 f1' f2 f3 hwd hrow d2 d4 d5 hf hbw hbww hnums hvb hK hkd hc2 hlg hSg hc e2 he
          go_wp2
          go_region_law (first | (go_simp; go_at_call 32; (with_reducible refine HC.out.mono ?_); rintro e w5 ⟨rfl, hc5⟩; have HC5 := Lib.hid hc5; clear hc5))
          all_goals (
            go_wp2
            go_round
            case rel => exact ⟨j + 1, by omega, by go_num, HF.out.step (below_al0 wr _).drew HC5.out HF2.out⟩
            case measure => simp [intOf]; omega)
        · have hge2 : ¬ ((j : Int) < (n : Int)) := by omega
          have HF := Lib.hid hf; have HBW := Lib.hid hbw
          clear hf hbw he
          go_wp2
          go_ret2
          refine ⟨_, es, rfl, HU.out.row HF.out, by rw [HEN.out]; exact HNN.out, fun k hk W hb => HU.out.filled (HF.out.below hb) k hk, HU.out.faces, HB1.out.trans (HBW.out.mono HB1.out.size)⟩
end Go.Proofs.YtpcleebnfgnhdaaGreatDoor

/- Walk: impl.GraphHash. -/
set_option linter.unusedVariables false
set_option linter.unusedSimpArgs false
namespace Go.Proofs.YtpcleebnfgnhdaaGreatDoor
open Go.RowKit
open Num

set_option maxRecDepth 100000 in
set_option maxHeartbeats 4000000 in
theorem GraphHash_any (N : List Nd) (S : Nat → Prop) (gs : Value) (root : Nat) (w : World) (hg : GrB w S gs N) (hS : ∀ b, S b → b < w.heap.size) (hN : GraphOK N N.length) (hr : root < N.length) (hl : N.length ≤ 900) (hkt : KT w) (hcl : CL w) :
    Calls Tryz.prog 9 #[.agg #[gs, .int .i64 root]] w fun e w' => ∃ n : Int, e = .returned (.tuple #[.int .u32 n, .bool (hashG N (root + 1) root), .bool true]) ∧ Below w.heap.size w w' := by
  obtain ⟨sa, sc, rfl⟩ := hg.shape
  obtain ⟨n, hnn⟩ : ∃ n, n = N.length := ⟨_, rfl⟩
  obtain ⟨w1, hw1⟩ : ∃ w1, w1 = w.alloc (.cells #[.slice sa n sc, .int .i64 root] 24) := ⟨_, rfl⟩
  have hb1 : Below w.heap.size w w1 := by rw [hw1]; exact below_al0 _ _
  have hs1 : w1.heap.size = w.heap.size + 1 := by rw [hw1]; simp
  have h10 : w1.heap[w.heap.size]? = some (.cells #[.slice sa n sc, .int .i64 root] 24 (0, 0)) := by rw [hw1]; exact heap_alloc_new _ _
  have HZ := Lib.hid (show ∀ W, Below w1.heap.size w1 W → W.cell? ⟨w.heap.size, 0, none⟩ = some (.slice sa n sc) ∧ W.cell? ⟨w.heap.size, 1, none⟩ = some (.int .i64 root) from fun W hb => by
    have h := (hb.block w.heap.size (by omega)).trans h10
    exact ⟨(cell_of_row _ _ 0 _ _ (0, 0) h).trans rfl, (cell_of_row _ _ 1 _ _ (0, 0) h).trans rfl⟩)
  have HC := Lib.hid (show Calls Tryz.prog 19 #[.agg #[.slice sa n sc, .int .i64 root]] w1 (GrpIs N w1) by
    rw [hnn]
    exact graph_any N S _ root w1 (hg.below hb1) (fun b h => Nat.lt_of_lt_of_le (hS b h) hb1.size) hN hr hl (hkt.below hb1) (hcl.below hb1))
  have HW1 := Lib.hid hw1; have HB1 := Lib.hid hb1; have HR := Lib.hid hr; have HNN := Lib.hid hnn
  rw [← hnn]
  clear hg hS hN hkt hcl hl hw1 hb1 hs1 h10 hnn
  obtain ⟨x0, x1⟩ := HZ.out w1 (Below.refl _ _)
  go_enter Tryz.func9, Tryz.ntmps9
  go_wp2_with fail
  rw [← HW1.out]
  go_wp2_with fail
  refine HC.out.mono ?_
  rintro e w2 ⟨lv, es, rfl, hrow, hel, hgd, hif, hb2⟩
  clear x0 x1
  obtain ⟨x0, x1⟩ := HZ.out w2 hb2
  have hre : root < es.length := by have := HR.out; omega
  obtain ⟨la, lc, rfl⟩ := hrow.shape
  obtain ⟨gl, pl, d1, d2, d3, d4, d5, d6⟩ := hrow.get root hre
  subst d1
  obtain ⟨t, u, htu⟩ := hif es[root] (List.getElem_mem hre)
  have HH := Lib.hid (hashed_any es[root] _ w2 (hgd root hre w2 (Below.refl _ _)).2)
  rw [htu] at d6 HH
  have HB2 := Lib.hid hb2
  obtain ⟨E, hE⟩ : ∃ E, E = es.length := ⟨_, rfl⟩
  rw [← hE] at d3 hre ⊢
  have l1 : (root : Int) < (E : Int) := by omega
  clear hrow hel hgd hif hb2 d2 d4 d5 htu hE hr
  go_wp2_with fail
  refine HH.out.mono ?_
  rintro e w3 ⟨⟨m, rfl⟩, hb3⟩
  have HB3 := Lib.hid (HB1.out.trans ((HB2.out.trans (hb3.mono HB2.out.size)).mono HB1.out.size))
  clear hb3
  go_wp2
  exact bodyPost_ret (v := .tuple #[.int .u32 m, .bool (hashG N (root + 1) root), .bool true]) (by simp [results, Tryz.results9, go_sem]) rfl ⟨_, rfl, HB3.out⟩
end Go.Proofs.YtpcleebnfgnhdaaGreatDoor

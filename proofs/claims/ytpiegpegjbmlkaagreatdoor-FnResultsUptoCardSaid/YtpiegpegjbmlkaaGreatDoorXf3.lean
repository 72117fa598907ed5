/- The walks and the plain laws, part 3. -/
import Derived.Test.YtpiegpegjbmlkaaGreatDoorXf2
import Derived.Conc.MuLone
import Derived.Laws.LoneSync
import Derived.Test.YtpiegpegjbmlkaaGreatDoorXf1
namespace Go.Proofs.YtpiegpegjbmlkaaGreatDoor
open Go Go.Kd
set_option maxRecDepth 100000

theorem c_NewTuple' (a : Option Addr) (n c : Nat) (w : World) : Calls Tryz.prog 108 #[.slice a n c] w (Ret fun r w' => ∃ q : Option Addr, r = .pointer q ∧ Ext w w' ∧ ((q = none ∧ n = 0) ∨ ∃ b, q = some ⟨b, 0, none⟩ ∧ 0 < n ∧ w.heap.size ≤ b ∧ Has w' b (.cells #[.slice a n c] 220))) :=
  (c_NewTuple a n c w).mono fun e w' ⟨v, he, h⟩ => ⟨v, he, by
    rcases h with ⟨h1, h2, h3⟩ | ⟨b, h1, h2, h3⟩
    · exact ⟨none, h2, h3 ▸ Ext.rfl' w, .inl ⟨rfl, h1⟩⟩
    · exact ⟨_, h2, h3.ext, .inr ⟨b, rfl, h1, Nat.le_of_eq h3.num.symm, h3.has⟩⟩⟩
theorem c_NewSig (rv ps rs : Option Addr) (vr : Bool) (w : World) (hl : vr = true → LastSl w (.pointer ps)) :
    Calls Tryz.prog 128 #[.pointer rv, .slice none 0 0, .slice none 0 0, .pointer ps, .pointer rs, .bool vr] w (Ret fun r w' => ∃ b, r = pt b ∧ w.heap.size ≤ b ∧ Has w' b (.cells #[.pointer rv, .pointer none, .pointer ps, .pointer rs, .bool vr] tSG) ∧ Ext w w') := by
  cases vr
  · exact c_NewSignatureType0 rv ps rs w
  · exact c_NewSignatureType1 rv ps rs w (hl rfl)
/-- parameters and results -/
def rkS (pv : Value) (c cN : Nat) : RowK := ⟨tVR, fun e v => #[.int .i64 0, pv, .string e.name, v, .int .u8 4, .bool false], tVA, tVA, fun vb _ i => pt (vb (c + i)), cN, rfl, rfl, by decide, by decide, by decide, by decide⟩
/-- a function type is made; rv: its receiver -/
def SigR (K : Cfg) (s : Gs) (w : World) (bb : Nat) (made : List Nat) (t : Ty) (rv : Option Addr) (r : Value) (w' : World) : Prop :=
  ∃ b ps rs s' new, r = pt b ∧ Made K s w bb made (wts t.elems) s' new w' ∧ RT K s' w' (fun b => w.heap.size ≤ b) (.iface tSP (pt b)) t ∧ w.heap.size ≤ b ∧ Has w' b (.cells #[.pointer rv, .pointer none, .pointer ps, .pointer rs, .bool t.vr] tSG)
set_option maxHeartbeats 4000000 in
theorem c_signature (D : List De) (K : Cfg) (i : Nat) (t : Ty) (hk : t.kind = 8) (ih : ∀ (j : Nat) e, t.elems[j]? = some e → TypC D K i e) (s : Gs) (w : World) (bb : Nat) (made : List Nat) (p : Nat → Prop) (cs : List Value) (rv : Option Addr)
    (hx : Ctx D K i s w bb made) (ha : Ask D i w K p cs t) (hb : wt t + made.length ≤ Big) :
    Calls Tryz.prog 85 #[pt bb, .pointer rv, .agg cs.toArray] w (Ret (SigR K s w bb made t rv)) := by
  replace hb : wt t + made.length ≤ 268435456 := hb
  obtain ⟨a, cp, rfl, hv⟩ := ha.open
  obtain ⟨v, hs⟩ := ha.sh
  have hc0 := hs.shape.c0 (.inl hk)
  have hc1 := hs.shape.c1 (.inl hk)
  obtain ⟨c, hc⟩ := Int.eq_ofNat_of_zero_le hc0
  have hcl : c ≤ t.elems.length := by omega
  have hwt := wt_eq t
  have hlen := wts_len t.elems
  obtain ⟨na, nl, nc, vm, hbb, how, hnm⟩ := hx.bi.ex
  obtain ⟨pc, px, hpc, _⟩ := hx.bi.pkg 0 (.inl rfl)
  rw [hpc] at hbb
  refine W.enter (args := [pt bb, .pointer rv, .agg (tyl t.kind t.n t.count t.vr (.slice a t.elems.length cp) t.name t.tag t.emb).toArray]) Tryz.func85 rfl Tryz.ntmps85 rfl rfl ?_
  refine zst ?_
  refine WU.stp rfl rfl rfl (by first | exact stp_box rfl rfl | exact stp_box1 rfl rfl) ?_
  rintro _ w1 ⟨b1, rfl, n1⟩
  have ib1 := n1.has
  refine zst ?_
  have hnb1 : K.nb < w1.heap.size := Nat.lt_of_lt_of_le hx.bi.nbL n1.ext.size
  refine W.loop (σ := Nat × Value × Value) (fun (k, vp, vr) => [(15, .int .i64 k), (14, .int .i64 t.elems.length), (13, .slice a t.elems.length cp), (7, vp), (8, vr), (5, pt b1), (0, pt bb), (1, .pointer rv)])
    (fun (k, vp, vr) D' wk => D' = [] ∧ k ≤ t.elems.length ∧ Has wk b1 (.cells (tyl t.kind t.n t.count t.vr (.slice a t.elems.length cp) t.name t.tag t.emb).toArray 26) ∧ ∃ s' new vb vv, GI (rkS (pt pc) c t.elems.length) K s w1 bb made t.elems k (min k c) (k - c) vp vr s' new vb vv wk)
    (fun (k, _, _) => t.elems.length - k) (0, .slice none 0 0, .slice none 0 0)
    ⟨rfl, Nat.zero_le _, ib1, s, [], fun _ => 0, fun _ => .nilIface, by simpa using GI.nil _ _ (hx.bi.ext n1.ext) _ _⟩
    (by exact sub_of ⟨rfl, rfl, rfl, rfl, rfl, rfl, rfl, rfl, trivial⟩) ?_
  rintro ⟨k, vp, vr⟩ D' wk ⟨rfl, hkl, ibk, s', new, vb, vv, hI⟩
  refine zst ?_
  by_cases hlt : k < t.elems.length
  · rw [show decide ((k : Int) < (t.elems.length : Int)) = true by simpa using hlt]
    have he := List.getElem?_eq_getElem hlt
    generalize t.elems[k] = e at he
    obtain ⟨b, o, a3, c3, rfl, hpb, hcc, hae⟩ := ha.el hv he
    have hm := hI.m
    have xk : Sta K 0 w wk := (Sta.of_ext n1.ext).trans hm.sta
    have hck : Cells wk b (o + k * 8) (tyc e a3 c3) := Cells.sameB (xk.old b (ha.p b hpb).1 (ha.p b hpb).2) hcc
    have hwe := take_wts he
    have hwl := take_le (l := t.elems) (k + 1)
    have hln := hm.len
    refine zst ?_
    refine WU.yld rfl rfl rfl (yld_load_cells rfl hck) ?_
    refine WU.stp rfl rfl rfl stp_alloc ?_
    rintro _ w2 ⟨b2, rfl, n2⟩
    refine zst ?_
    refine WU.stp0 rfl rfl (stp_store_whole rfl rfl rfl rfl) ?_
    rintro _ w3 u3
    have x3 : Ext wk w3 := (u3.ofNew n2).ext
    have ib3 := ibk.ext' x3
    have ie3 := u3.has
    obtain ⟨vm3, hbb3⟩ := Has.staB (xk.ext x3) hbb
    obtain ⟨F, hFd⟩ : ∃ F : World → Prop, ∀ W, F W ↔ (Has W b2 (.cells (tyc e a3 c3).toArray 26) ∧ ∃ u, Has W bb (.cells #[pt pc, s.pk 1, .slice na nl nc, s.er, u] tBU)) := ⟨fun W => (Has W b2 (.cells (tyc e a3 c3).toArray 26) ∧ ∃ u, Has W bb (.cells #[pt pc, s.pk 1, .slice na nl nc, s.er, u] tBU)), fun _ => Iff.rfl⟩
    refine zst ?_
    refine W.regR (R := fun a b => F a → F b) (fun _ h => h) (fun _ _ _ h k x => k (h x)) [(0, .q), (1, .q), (2, .q), (3, .q), (4, .q), (5, .q), (6, .q), (7, .q), (8, .q), (9, .l), (10, .l), (11, .q)] (by kernel_rfl) (by kernel_rfl) rfl ?_
    intro w4 x4 _
    have hF : F w4 := (hFd _).2 ⟨ie3.ext' x4, vm3, hbb3.ext' x4⟩
    have x34 := x3.trans x4
    (repeat (first
        | refine WR.nilk ?_
        | refine WR.nil ?_
        | refine WR.yld (fun _ h => h) rfl rfl rfl rfl (fun w' hx => by obtain ⟨i1, u, i2⟩ := (hFd _).1 (hx hF); first | exact zyl | (exact yld_indexAddr_arr (i := 0) rfl rfl (by omega)) | exact yld_indexAddr_arr rfl rfl (by omega)) ?_
        | refine WR.skip rfl rfl rfl rfl ?_))
    have hx4 : Ctx D K i s' w4 bb (made ++ new) := ((hx.ext n1.ext).made hm).ext x34
    refine WR.stp rfl rfl rfl rfl (stp_call rfl (ih k e he s' w4 bb (made ++ new) p _ hx4 ((hae.sta xk).ext x34) (by rw [List.length_append]; show _ ≤ 268435456; omega))) ?_
    rintro r w5 ⟨s2, new2, m5, rt5, T, eb, rfl⟩
    have hF : F w5 := by
      obtain ⟨i1, u, i2⟩ := (hFd _).1 hF
      exact (hFd _).2 ⟨Has.sta m5.sta i1, Has.staB m5.sta i2⟩
    refine ⟨fun _ => hF, ?_⟩
    (repeat (first
        | refine WR.nilk ?_
        | refine WR.nil ?_
        | refine WR.yld (fun _ h => h) rfl rfl rfl rfl (fun w' hx => by obtain ⟨i1, u, i2⟩ := (hFd _).1 (hx hF); first | exact zyl | (exact yld_indexAddr_arr (i := 0) rfl rfl (by omega)) | exact yld_indexAddr_arr rfl rfl (by omega)) ?_
        | refine WR.skip rfl rfl rfl rfl ?_))
    refine WR.stp rfl rfl rfl rfl (stp_call rfl (c_NewParam 0 (some ⟨pc, 0, none⟩) e.name T (pt eb) w5)) ?_
    rintro _ w6 ⟨b6, rfl, n6⟩
    have hF : F w6 := by
      obtain ⟨i1, u, i2⟩ := (hFd _).1 hF
      exact (hFd _).2 ⟨i1.ext' n6.ext, u, i2.ext' n6.ext⟩
    refine ⟨fun _ => hF, ?_⟩
    (repeat (first
        | refine WR.nilk ?_
        | refine WR.nil ?_
        | refine WR.yld (fun _ h => h) rfl rfl rfl rfl (fun w' hx => by obtain ⟨i1, u, i2⟩ := (hFd _).1 (hx hF); first | exact zyl | (exact yld_indexAddr_arr (i := 0) rfl rfl (by omega)) | exact yld_indexAddr_arr rfl rfl (by omega)) ?_
        | refine WR.skip rfl rfl rfl rfl ?_))
    have hI6 := hI.next he x34 (Nat.le_refl _) m5 rt5 n6 (fun i hi => congrArg pt (put_lt vb b6 (by omega)))
    have ib6 : Has w6 b1 (.cells (tyl t.kind t.n t.count t.vr (.slice (some ⟨b, o, none⟩) t.elems.length cp) t.name t.tag t.emb).toArray 26) := (Has.sta m5.sta (ib3.ext' x4)).ext' n6.ext
    rw [hc] at ib6
    refine zst ?_
    by_cases hkc : k < c
    · rw [show decide ((k : Int) < (c : Int)) = true by simpa using hkc]
      refine zst ?_
      refine WU.stp rfl rfl rfl (stp_buildSlice rfl rfl rfl rfl rfl) ?_
      rintro _ w7 ⟨b7, rfl, n7⟩
      have hI7 := hI6.ext n7.ext
      refine WU.stp rfl rfl rfl (stp_append1 (el := tVA) rfl rfl hI7.op (Cells.has n7.has) rfl rfl (by omega) (by simp [Value.oneCell']) (by rw [List.length_map, List.length_range]; omega) (Nat.le_trans hI7.m.sta.size (Nat.le_refl _))) ?_
      rintro v' w8 ⟨o8, a8, g8⟩
      have hI8 := hI7.app1 a8 (by rw [show min k c = k from Nat.min_eq_left (Nat.le_of_lt hkc)] at o8 ⊢; rw [put_same]; exact o8) g8 (by omega) hnb1
      have ib8 := Has.app (el := tVA) a8 hI7.op (ib6.ext' n7.ext) (by decide)
      refine zst ?_
      refine ⟨(k + 1, v', vr), by show t.elems.length - (k + 1) < t.elems.length - k; omega, ⟨rfl, by omega, by rw [hc]; exact ib8, s2, new ++ new2, put vb k b6, put vv k (.iface T (pt eb)), ?_⟩, sub_of ⟨rfl, rfl, rfl, rfl, rfl, rfl, rfl, rfl, trivial⟩⟩
      rw [show min (k + 1) c = min k c + 1 from by omega, show k + 1 - c = k - c from by omega]
      exact hI8
    · rw [show decide ((k : Int) < (c : Int)) = false by simpa using hkc]
      refine zst ?_
      refine WU.stp rfl rfl rfl (stp_buildSlice rfl rfl rfl rfl rfl) ?_
      rintro _ w7 ⟨b7, rfl, n7⟩
      have hI7 := hI6.ext n7.ext
      refine WU.stp rfl rfl rfl (stp_append1 (el := tVA) rfl rfl hI7.or (Cells.has n7.has) rfl rfl (by omega) (by simp [Value.oneCell']) (by rw [List.length_map, List.length_range]; omega) (Nat.le_trans hI7.m.sta.size (Nat.le_refl _))) ?_
      rintro v' w8 ⟨o8, a8, g8⟩
      have hI8 := hI7.app2 a8 (by show Own _ _ _ _ _ (_ ++ [[pt (put vb k b6 (c + (k - c)))]]); rw [show c + (k - c) = k from by omega, put_same]; exact o8) g8 hnb1
      have ib8 := Has.app (el := tVA) a8 hI7.or (ib6.ext' n7.ext) (by decide)
      refine zst ?_
      refine ⟨(k + 1, vp, v'), by show t.elems.length - (k + 1) < t.elems.length - k; omega, ⟨rfl, by omega, by rw [hc]; exact ib8, s2, new ++ new2, put vb k b6, put vv k (.iface T (pt eb)), ?_⟩, sub_of ⟨rfl, rfl, rfl, rfl, rfl, rfl, rfl, rfl, trivial⟩⟩
      rw [show min (k + 1) c = min k c from by omega, show k + 1 - c = k - c + 1 from by omega]
      exact hI8
  · rw [show decide ((k : Int) < (t.elems.length : Int)) = false by simpa using hlt]
    have hkl' : k = t.elems.length := by omega
    subst hkl'
    rw [Nat.min_eq_right hcl] at hI
    obtain ⟨a1, c1, rfl, hr1⟩ := Own.row1 hI.op
    obtain ⟨a2, c2, rfl, hr2⟩ := Own.row1 hI.or
    refine zst ?_
    refine W.regD [(0, .q), (1, .q), (3, .q), (5, .q), (6, .q), (2, .l), (4, .l), (7, .l), (8, .q)] (by kernel_rfl) (by kernel_rfl) rfl ?_
    intro w2 x2 _
    have ib2 := ibk.ext' x2
    refine zsd ?_
    refine WD.stp rfl rfl rfl rfl (stp_call rfl (c_NewTuple' a1 c c1 w2)) ?_
    rintro _ w3 ⟨q1, rfl, x3, ht1⟩
    refine ⟨by first | assumption | exact Ext.rfl' _ | infer_instance, ?_⟩
    have ib3 := ib2.ext' x3
    refine zsd ?_
    refine WD.stp rfl rfl rfl rfl (stp_call rfl (c_NewTuple' a2 (t.elems.length - c) c2 w3)) ?_
    rintro _ w4 ⟨q2, rfl, x4, ht2⟩
    refine ⟨by first | assumption | exact Ext.rfl' _ | infer_instance, ?_⟩
    have ib4 := ib3.ext' x4
    refine zsd ?_
    have x24 := (x2.trans x3).trans x4
    have hI4 := hI.ext x24
    have row1 : ∀ i, i < c → ∃ g cs', a1 = some ⟨g, 0, none⟩ ∧ w1.heap.size ≤ g ∧ Has w4 g (.cells cs' tVA) ∧ cs'[i]? = some (pt (vb i)) := fun i hi => by
      obtain ⟨g, cs', k1, k2, _, k3, k4⟩ := hr1 i hi
      exact ⟨g, cs', k1, k2, k3.ext' x24, k4⟩
    have row2 : ∀ i, i < t.elems.length - c → ∃ g cs', a2 = some ⟨g, 0, none⟩ ∧ w1.heap.size ≤ g ∧ Has w4 g (.cells cs' tVA) ∧ cs'[i]? = some (pt (vb (c + i))) := fun i hi => by
      obtain ⟨g, cs', k1, k2, _, k3, k4⟩ := hr2 i hi
      exact ⟨g, cs', k1, k2, k3.ext' x24, k4⟩
    have hvar := fun (i : Nat) e (hi : i < t.elems.length) he => hI4.var i e hi hi he
    have hlast : t.vr = true → LastSl w4 (.pointer q1) := fun hvr => by
      obtain ⟨e, h0, h1, h2⟩ := hs.shape.vr hk hvr
      have hc1' : c ≠ 0 := fun e => h0 (by rw [hc, e]; rfl)
      have h1' : t.elems[c - 1]? = some e := by rw [← h1]; congr 1; omega
      rcases ht1 with ⟨_, h⟩ | ⟨tb, rfl, hpos, _, htb⟩
      · omega
      · obtain ⟨sb, hsb⟩ := (hI4.rt (c - 1) e (by omega) h1').kind3 h2
        obtain ⟨_, hv1⟩ := hI4.var (c - 1) e (by omega) (show c - 1 < t.elems.length by omega) h1'
        rw [hsb] at hv1
        exact ⟨tb, a1, c, c1, vb, sb, _, _, _, rfl, hpos, htb.ext' x4, fun i hi => by
          obtain ⟨g, cs', k1, _, k3, k4⟩ := row1 i hi
          exact ⟨g, cs', k1, k3, k4⟩, hv1, by omega⟩
    refine WD.stp rfl rfl rfl rfl (stp_call rfl (c_NewSig rv q1 q2 t.vr w4 hlast)) ?_
    rintro _ w5 ⟨b5, rfl, hb5, hh5, x5⟩
    refine ⟨by first | assumption | exact Ext.rfl' _ | infer_instance, ?_⟩
    refine zsd ?_
    refine zst ?_
    have hI5 := hI4.ext x5
    have hge5 : w1.heap.size ≤ b5 := by have := hI4.m.sta.size; omega
    have hnone : s'.g b5 = none := hI4.m.bi.fresh hb5
    have hni : ¬ isIf t := by
      rintro (h | h)
      · omega
      · omega
    have hsz1 := n1.ext.size
    have hm5 := hI5.m
    rw [List.take_length] at hm5
    refine fin1 (.inl rfl) rfl rfl ⟨b5, q1, q2, s'.set b5 t, new, rfl, (hm5.set hge5 hnone hh5.lt hni).before n1.ext, .func t b5 (.pointer q1) (.pointer q2) vb vv hk (fun i e he => ?_) (fun i e he => ?_) (by omega) ⟨_, hh5⟩ ?_ ?_ (Gs.set_same ..), by omega, hh5⟩
    · exact ((hI5.rt i e (List.getElem?_eq_some_iff.1 he).1 he).le (Gs.gle_set hnone).le).mono fun d _ hd => by omega
    · obtain ⟨k1, k2⟩ := hI5.var i e (List.getElem?_eq_some_iff.1 he).1 (List.getElem?_eq_some_iff.1 he).1 he
      exact ⟨_, _, by omega, k2⟩
    · rcases ht1 with ⟨rfl, h⟩ | ⟨tb, rfl, hpos, htg, htb⟩
      · exact .inl ⟨rfl, by omega⟩
      · refine .inr ⟨tb, a1, c1, rfl, by omega, by have := (hI.ext x2).m.sta.size; omega, ?_, fun i hi => ?_⟩
        · rw [show t.count.toNat = c from by omega]; exact (htb.ext' x4).ext' x5
        · obtain ⟨g, cs', k1, k2, k3, k4⟩ := row1 i (by omega)
          exact ⟨g, cs', k1, by omega, k3.ext' x5, k4⟩
    · rw [show t.count.toNat = c from by omega]
      rcases ht2 with ⟨rfl, h⟩ | ⟨tb, rfl, hpos, htg, htb⟩
      · exact .inl ⟨rfl, h⟩
      · refine .inr ⟨tb, a2, c2, rfl, hpos, by have := ((hI.ext x2).ext x3).m.sta.size; omega, htb.ext' x5, fun i hi => ?_⟩
        obtain ⟨g, cs', k1, k2, k3, k4⟩ := row2 i hi
        exact ⟨g, cs', k1, by omega, k3.ext' x5, k4⟩
end Go.Proofs.YtpiegpegjbmlkaaGreatDoor
namespace Go.Proofs.YtpiegpegjbmlkaaGreatDoor
open Go Go.Kd
set_option maxRecDepth 100000

theorem typ_func (D : List De) (K : Cfg) (i : Nat) (t : Ty) (hk : t.kind = 8) (ih : ∀ (j : Nat) e, t.elems[j]? = some e → TypC D K i e) : TypC D K i t := by
  intro s w bb made p cs hx ha hb
  obtain ⟨a, cp, rfl, hv⟩ := ha.open
  have hl : tyc t a cp = tyl 8 t.n t.count t.vr (.slice a t.elems.length cp) t.name t.tag t.emb := by unfold tyc; rw [hk]
  rw [hl]
  refine W.enter (args := [pt bb, .agg (tyl 8 t.n t.count t.vr (.slice a t.elems.length cp) t.name t.tag t.emb).toArray]) Tryz.func79 rfl Tryz.ntmps79 rfl rfl ?_
  refine zst ?_
  refine WU.stp rfl rfl rfl (by first | exact stp_box rfl rfl | exact stp_box1 rfl rfl) ?_
  rintro _ w1 ⟨b1, rfl, n1⟩
  refine zst ?_
  have hsig := c_signature D K i t hk ih s w1 bb made p _ none (hx.ext n1.ext) (ha.ext n1.ext) hb
  rw [hl] at hsig
  refine WU.stp rfl rfl rfl (stp_call rfl hsig) ?_
  rintro _ w2 ⟨b, ps, rs, s', new, rfl, m, rt, hge, hh⟩
  refine zst ?_
  exact fin1 (.inl rfl) rfl rfl ⟨s', new, (m.le (by rw [wt_eq t]; omega)).before n1.ext, rt.mono fun c _ hc => Nat.le_trans n1.ext.size hc, _, _, rfl⟩

abbrev tST : Nat := 9
/-- fields and tags -/
def rkT (pv : Value) (tg : Nat → ByteArray) (cN : Nat) : RowK := ⟨tVR, fun e v => #[.int .i64 0, pv, .string e.name, v, .int .u8 6, .bool e.emb], tVA, tST, fun _ _ i => .string (tg i), cN, rfl, rfl, by decide, by decide, by decide, by decide⟩
theorem wt_name (t : Ty) : t.name.size ≤ wt t := by rw [wt_eq t]; omega
theorem pth_nodot (n : Int) : ∀ c ∈ (pth n).toList, c ≠ 46 := by
  unfold pth
  split <;> (rw [Lib.toList_data]; decide)
theorem pth_ne (n : Int) : (pth n).toList ≠ [] := by
  unfold pth
  split <;> (rw [Lib.toList_data]; decide)
theorem pth_size (n : Int) : (pth n).size = 1 := by
  unfold pth
  split <;> rfl
theorem uniq_names {l : List Ty} (h : Uniq (names l)) : (∀ (i : Nat) e, l[i]? = some e → Ident e.name.toList) ∧ ∀ (i j : Nat) e f, i < j → l[i]? = some e → l[j]? = some f → e.name.toList = f.name.toList → e.name.toList = us := by
  have hn : ∀ (i : Nat) e, l[i]? = some e → (names l)[i]? = some e.name.toList := fun i e he => by unfold names; rw [List.getElem?_map, he]; rfl
  exact ⟨fun i e he => h.id i _ (hn i e he), fun i j e f hij he hf heq => h.un i j _ hij (hn i e he) (by rw [heq]; exact hn j f hf)⟩
set_option maxHeartbeats 4000000 in
theorem typ_struct (D : List De) (K : Cfg) (i : Nat) (t : Ty) (hk : t.kind = 7) (ih : ∀ (j : Nat) e, t.elems[j]? = some e → TypC D K i e) : TypC D K i t := by
  intro s w bb made p cs hx ha hb
  replace hb : wt t + made.length ≤ 268435456 := hb
  obtain ⟨a, cp, rfl, hv⟩ := ha.open
  obtain ⟨v, hs⟩ := ha.sh
  have hn0 := hs.shape.n0 (by rw [hk]; simp [limitN])
  have hn1 := hs.shape.n1 (by rw [hk]; simp [limitN])
  rw [hk] at hn1
  have hn2 : t.n < 2 := by simpa [limitN] using hn1
  obtain ⟨m, hm⟩ := Int.eq_ofNat_of_zero_le hn0
  have hm2 : m < 2 := by omega
  have hwt := wt_eq t
  have hlen := wts_len t.elems
  obtain ⟨na, nl, nc, vm, hbb, how, hnm⟩ := hx.bi.ex
  obtain ⟨pc, px, hpc, hpk⟩ := hx.bi.pkg t.n (by omega)
  have pkc : ∀ (W : World) (u : Value), Has W bb (.cells #[s.pk 0, s.pk 1, .slice na nl nc, s.er, u] tBU) → W.cell? ⟨bb, m, none⟩ = some (pt pc) := fun W u h => by
    rw [← hpc, hm]
    match m, hm2 with
    | 0, _ => exact cell_of h rfl
    | 1, _ => exact cell_of h rfl
  have hl : tyc t a cp = tyl 7 m t.count t.vr (.slice a t.elems.length cp) t.name t.tag t.emb := by unfold tyc; rw [hk, hm]
  rw [hl]
  let tg : Nat → ByteArray := fun i => (t.elems.getD i anyT).tag
  refine W.enter (args := [pt bb, .agg (tyl 7 m t.count t.vr (.slice a t.elems.length cp) t.name t.tag t.emb).toArray]) Tryz.func79 rfl Tryz.ntmps79 rfl rfl ?_
  refine zst ?_
  refine WU.stp rfl rfl rfl (by first | exact stp_box rfl rfl | exact stp_box1 rfl rfl) ?_
  rintro _ w1 ⟨b1, rfl, n1⟩
  have ib1 := n1.has
  refine zst ?_
  have hnb1 : K.nb < w1.heap.size := Nat.lt_of_lt_of_le hx.bi.nbL n1.ext.size
  refine W.loop (σ := Nat × Value × Value) (fun (k, vp, vr) => [(100, .int .i64 k), (99, .int .i64 t.elems.length), (98, .slice a t.elems.length cp), (5, vp), (6, vr), (3, pt b1), (0, pt bb)])
    (fun (k, vp, vr) D' wk => D' = [] ∧ k ≤ t.elems.length ∧ Has wk b1 (.cells (tyl 7 m t.count t.vr (.slice a t.elems.length cp) t.name t.tag t.emb).toArray 26) ∧ ∃ s' new vb vv, GI (rkT (pt pc) tg t.elems.length) K s w1 bb made t.elems k k k vp vr s' new vb vv wk)
    (fun (k, _, _) => t.elems.length - k) (0, .slice none 0 0, .slice none 0 0)
    ⟨rfl, Nat.zero_le _, ib1, s, [], fun _ => 0, fun _ => .nilIface, GI.nil _ _ (hx.bi.ext n1.ext) _ _⟩
    (by exact sub_of ⟨rfl, rfl, rfl, rfl, rfl, rfl, rfl, trivial⟩) ?_
  rintro ⟨k, vp, vr⟩ D' wk ⟨rfl, hkl, ibk, s', new, vb, vv, hI⟩
  refine zst ?_
  by_cases hlt : k < t.elems.length
  · rw [show decide ((k : Int) < (t.elems.length : Int)) = true by simpa using hlt]
    have he := List.getElem?_eq_getElem hlt
    have htg : tg k = t.elems[k].tag := by show (t.elems.getD k anyT).tag = _; rw [List.getD_eq_getElem?_getD, he]; rfl
    generalize t.elems[k] = e at he htg
    obtain ⟨b, o, a3, c3, rfl, hpb, hcc, hae⟩ := ha.el hv he
    have hm' := hI.m
    have xk : Sta K 0 w wk := (Sta.of_ext n1.ext).trans hm'.sta
    have hck : Cells wk b (o + k * 8) (tyc e a3 c3) := Cells.sameB (xk.old b (ha.p b hpb).1 (ha.p b hpb).2) hcc
    have hwe := take_wts he
    have hwl := take_le (l := t.elems) (k + 1)
    have hln := hm'.len
    refine zst ?_
    refine WU.yld rfl rfl rfl (yld_load_cells rfl hck) ?_
    refine WU.stp rfl rfl rfl stp_alloc ?_
    rintro _ w2 ⟨b2, rfl, n2⟩
    refine WU.stp0 rfl rfl (stp_store_whole rfl rfl rfl rfl) ?_
    rintro _ w3 u3
    have x3 : Ext wk w3 := (u3.ofNew n2).ext
    have ib3 := ibk.ext' x3
    have ie3 := u3.has
    obtain ⟨vm3, hbb3⟩ := Has.staB (xk.ext x3) hbb
    obtain ⟨F, hFd⟩ : ∃ F : World → Prop, ∀ W, F W ↔ (Has W b2 (.cells (tyc e a3 c3).toArray 26) ∧ Has W b1 (.cells (tyl 7 m t.count t.vr (.slice (some ⟨b, o, none⟩) t.elems.length cp) t.name t.tag t.emb).toArray 26) ∧ ∃ u, Has W bb (.cells #[s.pk 0, s.pk 1, .slice na nl nc, s.er, u] tBU)) := ⟨fun W => (Has W b2 (.cells (tyc e a3 c3).toArray 26) ∧ Has W b1 (.cells (tyl 7 m t.count t.vr (.slice (some ⟨b, o, none⟩) t.elems.length cp) t.name t.tag t.emb).toArray 26) ∧ ∃ u, Has W bb (.cells #[s.pk 0, s.pk 1, .slice na nl nc, s.er, u] tBU)), fun _ => Iff.rfl⟩
    refine zst ?_
    refine W.regR (R := fun a b => F a → F b) (fun _ h => h) (fun _ _ _ h k x => k (h x)) [(0, .q), (1, .q), (2, .q), (3, .q), (4, .q), (5, .q), (6, .q), (7, .q), (8, .q), (9, .q), (10, .q), (11, .q), (13, .q), (14, .q), (12, .l), (15, .l), (16, .l), (17, .l), (18, .q)] (by kernel_rfl) (by kernel_rfl) rfl ?_
    intro w4 x4 _
    have hF : F w4 := (hFd _).2 ⟨ie3.ext' x4, ib3.ext' x4, vm3, hbb3.ext' x4⟩
    have x34 := x3.trans x4
    (repeat (first
        | refine WR.nilk ?_
        | refine WR.nil ?_
        | refine WR.yld (fun _ h => h) rfl rfl rfl rfl (fun w' hx => by obtain ⟨i1, i0, u, i2⟩ := (hFd _).1 (hx hF); first | exact zyl | (exact by first | exact yld_indexAddr_arr (i := m) rfl rfl (by omega) | exact yld_load_c rfl (pkc _ u i2)) | exact yld_indexAddr_arr rfl rfl (by omega)) ?_
        | refine WR.skip rfl rfl rfl rfl ?_))
    have hx4 : Ctx D K i s' w4 bb (made ++ new) := ((hx.ext n1.ext).made hm').ext x34
    refine WR.stp rfl rfl rfl rfl (stp_call rfl (ih k e he s' w4 bb (made ++ new) p _ hx4 ((hae.sta xk).ext x34) (by rw [List.length_append]; show _ ≤ 268435456; omega))) ?_
    rintro r w5 ⟨s2, new2, m5, rt5, T, eb, rfl⟩
    have hF : F w5 := by
      obtain ⟨i1, i0, u, i2⟩ := (hFd _).1 hF
      exact (hFd _).2 ⟨Has.sta m5.sta i1, Has.sta m5.sta i0, Has.staB m5.sta i2⟩
    refine ⟨fun _ => hF, ?_⟩
    (repeat (first
        | refine WR.nilk ?_
        | refine WR.nil ?_
        | refine WR.yld (fun _ h => h) rfl rfl rfl rfl (fun w' hx => by obtain ⟨i1, i0, u, i2⟩ := (hFd _).1 (hx hF); first | exact zyl | (exact by first | exact yld_indexAddr_arr (i := m) rfl rfl (by omega) | exact yld_load_c rfl (pkc _ u i2)) | exact yld_indexAddr_arr rfl rfl (by omega)) ?_
        | refine WR.skip rfl rfl rfl rfl ?_))
    refine WR.stp rfl rfl rfl rfl (stp_call rfl (c_NewField 0 (some ⟨pc, 0, none⟩) e.name T (pt eb) e.emb w5)) ?_
    rintro _ w6 ⟨b6, rfl, n6⟩
    have hF : F w6 := by
      obtain ⟨i1, i0, u, i2⟩ := (hFd _).1 hF
      exact (hFd _).2 ⟨i1.ext' n6.ext, i0.ext' n6.ext, u, i2.ext' n6.ext⟩
    refine ⟨fun _ => hF, ?_⟩
    (repeat (first
        | refine WR.nilk ?_
        | refine WR.nil ?_
        | refine WR.yld (fun _ h => h) rfl rfl rfl rfl (fun w' hx => by obtain ⟨i1, i0, u, i2⟩ := (hFd _).1 (hx hF); first | exact zyl | (exact by first | exact yld_indexAddr_arr (i := m) rfl rfl (by omega) | exact yld_load_c rfl (pkc _ u i2)) | exact yld_indexAddr_arr rfl rfl (by omega)) ?_
        | refine WR.skip rfl rfl rfl rfl ?_))
    have hI6 := hI.next he x34 (Nat.le_refl _) m5 rt5 n6 (fun i hi => rfl)
    refine WR.stp rfl rfl rfl rfl (stp_buildSlice rfl rfl rfl rfl rfl) ?_
    rintro _ w7 ⟨b7, rfl, n7⟩
    have hF : F w7 := by
      obtain ⟨i1, i0, u, i2⟩ := (hFd _).1 hF
      exact (hFd _).2 ⟨i1.ext' n7.ext, i0.ext' n7.ext, u, i2.ext' n7.ext⟩
    refine ⟨fun _ => hF, ?_⟩
    (repeat (first
        | refine WR.nilk ?_
        | refine WR.nil ?_
        | refine WR.yld (fun _ h => h) rfl rfl rfl rfl (fun w' hx => by obtain ⟨i1, i0, u, i2⟩ := (hFd _).1 (hx hF); first | exact zyl | (exact by first | exact yld_indexAddr_arr (i := m) rfl rfl (by omega) | exact yld_load_c rfl (pkc _ u i2)) | exact yld_indexAddr_arr rfl rfl (by omega)) ?_
        | refine WR.skip rfl rfl rfl rfl ?_))
    have hI7 := hI6.ext n7.ext
    have hsz1 := n1.ext.size
    refine WR.stp rfl rfl rfl rfl (stp_append1 (el := tVA) rfl rfl hI7.op (Cells.has n7.has) rfl rfl (by omega) (by simp [Value.oneCell']) (by rw [List.length_map, List.length_range]; omega) (Nat.le_trans hI7.m.sta.size (Nat.le_refl _))) ?_
    rintro v' w8 ⟨o8, a8, g8⟩
    have hF : F w8 := by
      obtain ⟨i1, i0, u, i2⟩ := (hFd _).1 hF
      exact (hFd _).2 ⟨Has.app (el := tVA) a8 hI7.op i1 (by decide), Has.app (el := tVA) a8 hI7.op i0 (by decide), u, Has.app (el := tVA) a8 hI7.op i2 (by decide)⟩
    refine ⟨fun _ => hF, ?_⟩
    (repeat (first
        | refine WR.nilk ?_
        | refine WR.nil ?_
        | refine WR.yld (fun _ h => h) rfl rfl rfl rfl (fun w' hx => by obtain ⟨i1, i0, u, i2⟩ := (hFd _).1 (hx hF); first | exact zyl | (exact by first | exact yld_indexAddr_arr (i := m) rfl rfl (by omega) | exact yld_load_c rfl (pkc _ u i2)) | exact yld_indexAddr_arr rfl rfl (by omega)) ?_
        | refine WR.skip rfl rfl rfl rfl ?_))
    have hI8 := hI7.app1 a8 (by rw [put_same]; exact o8) g8 (by omega) hnb1
    obtain ⟨je8, jb8, _, _⟩ := (hFd _).1 hF
    refine zst ?_
    refine WU.stp rfl rfl rfl (stp_buildSlice rfl rfl rfl rfl rfl) ?_
    rintro _ w9 ⟨b9, rfl, n9⟩
    have hI9 := hI8.ext n9.ext
    refine WU.stp rfl rfl rfl (stp_append1 (el := tST) rfl rfl hI9.or (Cells.has n9.has) rfl rfl (by omega) (by simp [Value.oneCell']) (by rw [List.length_map, List.length_range]; omega) (Nat.le_trans hI9.m.sta.size (Nat.le_refl _))) ?_
    rintro v2 w10 ⟨o10, a10, g10⟩
    have hI10 := hI9.app2 a10 (by show Own _ _ _ _ _ (_ ++ [[.string (tg k)]]); rw [htg]; exact o10) g10 hnb1
    have jb10 := Has.app (el := tST) a10 hI9.or (jb8.ext' n9.ext) (by decide)
    refine zst ?_
    exact ⟨(k + 1, v', v2), by show t.elems.length - (k + 1) < t.elems.length - k; omega, ⟨rfl, by omega, jb10, s2, new ++ new2, put vb k b6, put vv k (.iface T (pt eb)), hI10⟩, sub_of ⟨rfl, rfl, rfl, rfl, rfl, rfl, rfl, trivial⟩⟩
  · rw [show decide ((k : Int) < (t.elems.length : Int)) = false by simpa using hlt]
    have hkl' : k = t.elems.length := by omega
    subst hkl'
    obtain ⟨a1, c1, rfl, hr1⟩ := Own.row1 hI.op
    obtain ⟨a2, c2, rfl, hr2⟩ := Own.row1 hI.or
    have hI' := hI.m
    rw [List.take_length] at hI'
    have xk : Sta K 0 w wk := (Sta.of_ext n1.ext).trans hI'.sta
    obtain ⟨u1, u2⟩ := uniq_names (ha.lg.here.fld hk)
    have hel : ∀ i, i < t.elems.length → t.elems[i]? = some (t.elems.getD i anyT) := fun i hi => by rw [List.getD_eq_getElem?_getD, List.getElem?_eq_getElem hi]; rfl
    have hsz : ∀ i, i < t.elems.length → (t.elems.getD i anyT).name.size ≤ 268435456 := fun i hi => by
      have := wts_mem (List.mem_of_getElem? (hel i hi))
      have := wt_name (t.elems.getD i anyT)
      omega
    refine zst ?_
    refine WU.stp rfl rfl rfl (stp_call rfl (c_NewStruct a1 a2 t.elems.length c1 t.elems.length c2 vb (fun i => (t.elems.getD i anyT).name) vv (fun i => (t.elems.getD i anyT).emb) (pt pc) (pth t.n) wk (hx.prp.sta xk hx.gN) (fun i hi => by
            obtain ⟨g, cs', k1, _, _, k3, k4⟩ := hr1 i hi
            exact ⟨g, cs', k1, k3, k4⟩) (fun i hi => (hI.var i _ hi hi (hel i hi)).2) (fun i hi => ⟨⟨_, rfl⟩, fun _ => ⟨pc, px, rfl, Has.sta xk hpk, pth_ne _⟩⟩) (fun i hi => u1 i _ (hel i hi)) (pth_nodot _)
            (fun i j hij hj heq => u2 i j _ _ hij (hel i (by omega)) (hel j hj) heq) (fun i hi => by rw [pth_size]; have := hsz i hi; omega) (by omega) (Nat.le_refl _))) ?_
    rintro _ w2 ⟨b2, fa', fc', rfl, hfa, hge2, hh2, x2⟩
    refine zst ?_
    have hge : w1.heap.size ≤ b2 := by have := hI'.sta.size; omega
    have hsz1 := n1.ext.size
    have hnone : s'.g b2 = none := hI'.bi.fresh hge2
    have hni : ¬ isIf t := by
      rintro (h | h)
      · omega
      · omega
    have hI2 := hI.ext x2
    refine fin1 (.inl rfl) rfl rfl ⟨s'.set b2 t, new, (((hI'.ext x2).set hge hnone hh2.lt hni).before n1.ext).le (by omega), .struct t b2 fa' fc' a2 c2 vb vv tg hk (fun i e he => ?_) (fun i e he => ?_) (by omega) hh2 (fun i hi => ?_) (fun i hi => ?_) (Gs.set_same ..), _, _, rfl⟩
    · exact ((hI2.rt i e (List.getElem?_eq_some_iff.1 he).1 he).le (Gs.gle_set hnone).le).mono fun d _ hd => by omega
    · have hi := (List.getElem?_eq_some_iff.1 he).1
      obtain ⟨k1, k2⟩ := hI2.var i e hi hi he
      refine ⟨by omega, ?_, ?_⟩
      · show VarV w2 (vb i) ((s'.set b2 t).pk t.n) e.name (vv i) 6 e.emb
        rw [show (s'.set b2 t).pk t.n = pt pc from by rw [← hpc]; exact congrFun hI'.gle.pk _]
        exact k2
      · show (t.elems.getD i anyT).tag = e.tag
        rw [List.getD_eq_getElem?_getD, he]; rfl
    · obtain ⟨g, cs', k1, k2, _, k3, k4⟩ := hr1 i hi
      rw [hfa (by rw [k1]; simp)]
      exact ⟨g, cs', k1, by omega, k3.ext' x2, k4⟩
    · obtain ⟨g, cs', k1, k2, _, k3, k4⟩ := hr2 i hi
      exact ⟨g, cs', k1, by omega, k3.ext' x2, k4⟩
end Go.Proofs.YtpiegpegjbmlkaaGreatDoor
namespace Go.Proofs.YtpiegpegjbmlkaaGreatDoor
open Go Go.Kd
set_option maxRecDepth 100000

theorem Sta.bel {K : Cfg} {c : Nat} {w0 w w' : World} (h : Sta K c w0 w) (x : RowKit.Below w0.heap.size w w') : Sta K c w0 w' :=
  ⟨x.os.trans h.os, x.tape.trans h.tape, x.output.trans h.output, Nat.le_trans h.size x.size, fun d hd ha => (x.block d ha).trans (h.old d hd ha), fun d cs t fz hd ht ha => by
    rw [x.block d (Array.getElem?_eq_some_iff.1 ha).1]; exact h.new d cs t fz hd ht ha, fun d o hd ha ho => by
    rw [x.block d (Array.getElem?_eq_some_iff.1 ha).1]; exact h.oth d o hd ha ho⟩
/-- only signatures, rows of functions, and what is new, have turned -/
def SgF (w w' : World) : Prop := ∀ d cs t, Has w d (.cells cs t (0, 0)) → t ≠ tSG → t ≠ tFN → w'.heap[d]? = w.heap[d]?
theorem Made.chg {K : Cfg} {s1 s2 : Gs} {w1 w2 w3 : World} {bb : Nat} {made n1 : List Nat} {m : Nat} (h : Made K s1 w1 bb made m s2 n1 w2) (x : RowKit.Below w1.heap.size w2 w3) (hs : SgF w2 w3) (hr : ∀ v t, RT K s2 w2 s2.sl v t → RT K s2 w3 s2.sl v t) : Made K s1 w1 bb made m s2 n1 w3 := by
  have hk : ∀ d cs t, Has w2 d (.cells cs t (0, 0)) → t ≠ tSG → t ≠ tFN → Has w3 d (.cells cs t (0, 0)) := fun d cs t h1 h2 h3 => ⟨(hs d cs t h1 h2 h3).trans h1.at_⟩
  refine ⟨h.gle, h.sta.bel x, h.bi.keep x.size (fun d cs t hd ht => (by rcases ht with rfl | ⟨rfl, rfl⟩ | rfl | rfl <;> exact hs _ _ _ ⟨hd⟩ (by decide) (by decide))) hr, h.len, fun b u hu => ?_, fun d hd => (h.sn d hd).imp id fun h => ⟨h.1, Nat.lt_of_lt_of_le h.2 x.size⟩⟩
  rcases h.gn b u hu with k | ⟨k1, k2, k3⟩
  · exact .inl k
  · have key : ∀ ts, IfT w2 b ts → IfT w3 b ts := fun ts ⟨ma, mn, mc, ea, en, ec, h⟩ => ⟨ma, mn, mc, ea, en, ec, hk _ _ _ h (by decide) (by decide)⟩
    refine .inr ⟨k1, Nat.lt_of_lt_of_le k2 x.size, fun hi => ⟨(k3 hi).1, ?_⟩⟩
    rcases (k3 hi).2 with h | ⟨⟨tb, v, h1, h2, a, c, tb', h3, h4, h5⟩, h6⟩
    · exact .inl (key _ h)
    · exact .inr ⟨⟨tb, v, key _ h1, hk _ _ _ h2 (by decide) (by decide), a, c, tb', h3, fun i hi => by
        obtain ⟨b, cs, k1, k2, k3⟩ := h4 i hi
        exact ⟨b, cs, k1, hk _ _ _ k2 (by decide) (by decide), k3⟩, hk _ _ _ h5 (by decide) (by decide)⟩, h6⟩
abbrev tFU : Nat := 204
/-- methods and embedded types -/
def rkI (pv : Value) (c : Nat) : RowK := ⟨tFU, fun e v => #[.int .i64 0, pv, .string e.name, v, .bool false, .bool false], tFN, tTY, fun _ vv i => vv (c + i), c, rfl, rfl, by decide, by decide, by decide⟩
def sbOf : Value → Nat
  | .iface _ (.pointer (some a)) => a.block
  | _ => 0
/-- signatures without a receiver -/
def SigN (w wk : World) (l : List Ty) (k : Nat) (vv : Nat → Value) : Prop := ∀ (i : Nat) e, i < k → l[i]? = some e → ∃ sb ps rs : Nat × Option Addr, vv i = .iface tSP (pt sb.1) ∧ w.heap.size ≤ sb.1 ∧ Has wk sb.1 (.cells #[.pointer none, .pointer none, .pointer ps.2, .pointer rs.2, .bool e.vr] tSG)

/-- an interface type has been made -/
theorem iface_done {D : List De} {K : Cfg} {i : Nat} {s s' : Gs} {w1 wk w' : World} {bb c : Nat} {made new : List Nat} {t : Ty} {vp ve : Value} {vb : Nat → Nat} {vv : Nat → Value} {pc b : Nat} {ma ea : Option Addr} {mc ec : Nat}
    (hk : t.kind = 9) (hc : t.count = c) (hcl : c ≤ t.elems.length) (hx : Ctx D K i s w1 bb made) (hpc : s.pk t.n = pt pc)
    (hI : GI (rkI (pt pc) c) K s w1 bb made t.elems t.elems.length c (t.elems.length - c) vp ve s' new vb vv wk) (hvp : vp = .slice ma c mc) (hve : ve = .slice ea (t.elems.length - c) ec) (hbg : wk.heap.size ≤ b)
    (hr : (c = 0 ∧ t.elems.length - c = 0 ∧ (∃ tb v, Has w' b (.cells (ifc none 0 0 none 0 0 (pt tb)) tIF) ∧ Has w' tb (.cells #[.bool false, .slice none 0 0, v, .bool false] tTS) ∧ AllT w' v) ∧ Ext wk w') ∨
       (¬ (c = 0 ∧ t.elems.length - c = 0) ∧ Has w' b (.cells (ifc ma c mc ea (t.elems.length - c) ec (.pointer none)) tIF) ∧ ∃ (w2 : World) (σ : List Nat), Sta K 3 wk w2 ∧ (∀ d, d < wk.heap.size → (∀ i, i < c → d ≠ sbOf (vv i)) → w2.heap[d]? = wk.heap[d]?) ∧ Oth w2 w' b ma ∧ σ.Perm (List.range c) ∧
        RowP w' 132 ma c (fun i => vb (σ.getD i 0)))) (hsg : SigN w1 wk t.elems c vv) :
    Made K s w1 bb made (wts t.elems) s' new w' ∧ RT K (s'.set b t) w' (fun d => w1.heap.size ≤ d) (.iface 108 (pt b)) t ∧ Fresh w' b t ∧ s'.g b = none := by
  have hm := hI.m
  rw [List.take_length] at hm
  have hnone : s'.g b = none := hm.bi.fresh hbg
  have hsz := hm.sta.size
  have hcn : t.count.toNat = c := by omega
  rcases hr with ⟨h1, h2, ⟨tb, v, k1, k2, k3⟩, x⟩ | ⟨h0, hb', w2, σ, x2, hd2, ho, hσ, hrow⟩
  · have hnil : t.elems = [] := List.eq_nil_of_length_eq_zero (by omega)
    refine ⟨hm.ext x, .iface t b none 0 none 0 (fun _ => 0) (fun _ => anyT) (fun _ => .nilIface) (fun _ => .nilIface) hk (fun i hi => by omega) (fun i hi => by omega) (by rw [hcn, h1]; exact .refl _) (fun i e he => by rw [hnil] at he; simp at he) (by omega) ⟨pt tb, by rw [hcn, h1, hnil]; exact k1⟩ (fun i hi => by omega) (fun i hi => by rw [hnil] at hi; simp at hi) (Gs.set_same ..), .tse k1 k2 k3 (.inr hnil), hnone⟩
  · have hsbk : ∀ i, i < c → ∃ e, t.elems[i]? = some e ∧ vv i = .iface tSP (pt (sbOf (vv i))) ∧ w1.heap.size ≤ sbOf (vv i) ∧ ∃ cs, Has wk (sbOf (vv i)) (.cells cs tSG) := fun i hi => by
      have he := List.getElem?_eq_getElem (show i < t.elems.length by omega)
      obtain ⟨sb, ps, rs, g1, g2, g3⟩ := hsg i _ hi he
      rw [g1]
      exact ⟨_, he, rfl, g2, _, g3⟩
    have hma : ∀ a, ma = some a → w1.heap.size ≤ a.block ∧ a.block < wk.heap.size ∧ vp.ownBlock = some a.block := fun a ha => by
      have : vp.ownBlock = some a.block := by rw [hvp, ha]; rfl
      exact ⟨(hI.op.lt _ this).1, (hI.op.lt _ this).2, this⟩
    have hbel : RowKit.Below w1.heap.size wk w' := ⟨ho.os.trans x2.os, ho.tape.trans x2.tape, ho.output.trans x2.output, Nat.le_trans x2.size ho.size, fun d hd => by
      rw [ho.oth d (by have := x2.size; omega) (by omega) fun a ha => by have := (hma a ha).1; omega]
      exact hd2 d (by omega) fun i hi => by obtain ⟨_, _, _, h, _⟩ := hsbk i hi; omega⟩
    have hsgf : SgF wk w' := fun d cs t hd ht1 ht2 => by
      rw [ho.oth d (by have := x2.size; have := hd.lt; omega) (by have := hd.lt; omega) fun a ha e => Own.ne (el := tFN) hI.op hd ht2 _ (hma a ha).2.2 e.symm]
      exact hd2 d hd.lt fun i hi e => by
        obtain ⟨_, _, _, _, cs', h⟩ := hsbk i hi
        subst e
        have := hd.at_.symm.trans h.at_
        simp at this
        exact ht1 this.2
    have mv : ∀ {v : Value} {e : Ty}, RT K s' wk (fun d => w1.heap.size ≤ d ∧ vp.ownBlock ≠ some d ∧ ve.ownBlock ≠ some d) v e → RT K (s'.set b t) w' (fun d => w1.heap.size ≤ d) v e := fun h => by
      have h1 := (h.mono (q := fun d => (w1.heap.size ≤ d ∧ vp.ownBlock ≠ some d) ∧ d < wk.heap.size) fun d hd hp => ⟨⟨hp.1, hp.2.1⟩, hd⟩).sta x2 (by omega)
      have h2 := h1.same (w' := w') fun d hd => ho.oth d (by have := x2.size; omega) (by omega) fun a ha e => hd.1.2 (by rw [(hma a ha).2.2, e])
      exact (h2.le (Gs.gle_set hnone).le).mono fun d _ hd => hd.1.1
    have hσlen : σ.length = c := by rw [hσ.length_eq, List.length_range]
    have hσlt : ∀ i, i < c → σ.getD i 0 < c := fun i hi => by
      rw [List.getD_eq_getElem?_getD, List.getElem?_eq_getElem (by omega)]
      exact List.mem_range.1 (hσ.mem_iff.1 (List.getElem_mem (by omega)))
    have hel : ∀ i, i < t.elems.length → t.elems[i]? = some (t.elems.getD i anyT) := fun i hi => by rw [List.getD_eq_getElem?_getD, List.getElem?_eq_getElem hi]; rfl
    refine ⟨hm.chg hbel hsgf (fun v u hr => ((((hr.mono (q := fun d => s'.sl d ∧ d < wk.heap.size) fun d hd hp => ⟨hp, hd⟩).sta x2 (by omega)).same (w' := w') fun d hd => ho.oth d (by have := x2.size; omega) (by omega) fun a ha e => (hI.so d hd.1).1 (by rw [(hma a ha).2.2, e])).mono fun d _ hd => hd.1)), .iface t b ma mc ea ec (fun i => vb (σ.getD i 0)) (fun i => t.elems.getD (σ.getD i 0) anyT) (fun i => vv (σ.getD i 0)) (fun i => vv (c + i)) hk (fun i hi => ?_) (fun i hi => ?_) ?_ (fun i e he => ?_) (by omega) ⟨.pointer none, by rw [hcn]; exact hb'⟩ (fun i hi => ?_) (fun i hi => ?_) (Gs.set_same ..), .inl ⟨_, _, _, _, _, _, hb'⟩, hnone⟩
    · have hl := hσlt i (by omega)
      exact mv (hI.rt _ _ (by omega) (hel _ (by omega)))
    · have hl := hσlt i (by omega)
      obtain ⟨k1, k2⟩ := hI.var (σ.getD i 0) _ (by omega) (show σ.getD i 0 < c from hl) (hel _ (by omega))
      refine ⟨pt pc, .inl ?_, by omega, ⟨(hsgf _ _ _ k2 (by show tFU ≠ tSG; decide) (by show tFU ≠ tFN; decide)).trans k2.at_⟩⟩
      show pt pc = (s'.set b t).pk t.n
      rw [← hpc]; exact (congrFun hm.gle.pk _).symm
    · rw [hcn]
      have h1 : (List.range c).map (fun i => t.elems.getD (σ.getD i 0) anyT) = σ.map fun j => t.elems.getD j anyT := by
        apply List.ext_getElem?
        intro i
        rw [List.getElem?_map, List.getElem?_map]
        by_cases hi : i < c
        · rw [List.getElem?_range hi, List.getElem?_eq_getElem (show i < σ.length by omega)]
          simp only [Option.map_some]
          rw [List.getD_eq_getElem?_getD (l := σ), List.getElem?_eq_getElem (show i < σ.length by omega)]
          rfl
        · rw [List.getElem?_eq_none (by simpa using hi), List.getElem?_eq_none (by omega)]; rfl
      have h2 : (List.range c).map (fun j => t.elems.getD j anyT) = t.elems.take c := by
        apply List.ext_getElem?
        intro i
        rw [List.getElem?_map]
        by_cases hi : i < c
        · rw [List.getElem?_range hi, List.getElem?_take_of_lt hi, hel i (by omega)]; rfl
        · rw [List.getElem?_eq_none (by simpa using hi), List.getElem?_eq_none (by simp; omega)]; rfl
      rw [h1, ← h2]
      exact hσ.map _
    · rw [hcn] at he
      exact mv (hI.rt _ e (List.getElem?_eq_some_iff.1 he).1 he)
    · rw [hcn] at hi
      obtain ⟨g, cs, k1, k2, k3⟩ := hrow i hi
      exact ⟨g, cs, k1, by have := (hma _ k1).1; simpa using this, k2, k3⟩
    · rw [hcn] at hi
      obtain ⟨a', cp', k1, k2⟩ := Own.row1 hI.or
      rw [hve] at k1
      cases k1
      obtain ⟨g, cs, q1, q2, q3, q4, q5⟩ := k2 i hi
      refine ⟨g, cs, q1, q2, ?_, ⟨(hsgf _ _ _ q4 (by show tTY ≠ tSG; decide) (by show tTY ≠ tFN; decide)).trans q4.at_⟩, q5⟩
      have := hx.bi.nbL
      omega
/-- .. and put into the builder's list -/
theorem Made.pushIf {K : Cfg} {s1 s2 : Gs} {w1 w2 w3 : World} {bb : Nat} {made n1 : List Nat} {m : Nat} (h : Made K s1 w1 bb made m s2 n1 w2) {b : Nat} {t : Ty} (hn : s2.g b = none) (hb : w1.heap.size ≤ b) (hb' : b < w2.heap.size) (hf : Fresh w2 b t)
    (hp : BI K ((s2.set b t).clo w1.heap.size w2.heap.size) w3 bb ((made ++ n1) ++ [b]) ∧ Sta K 0 w2 w3) : Made K s1 w1 bb made (m + 1) ((s2.set b t).clo w1.heap.size w2.heap.size) (n1 ++ [b]) w3 :=
  ⟨h.gle.trans ((Gs.gle_set hn).trans (Gs.gle_seal ..)), h.sta.trans hp.2, by rw [← List.append_assoc]; exact hp.1, by rw [List.length_append, List.length_singleton]; have := h.len; omega, fun c u hc => by
    replace hc : (if c = b then some t else s2.g c) = some u := hc
    by_cases hcb : c = b
    · subst hcb
      simp only [if_true, Option.some.injEq] at hc
      subst hc
      exact .inr ⟨hb, Nat.lt_of_lt_of_le hb' hp.2.size, fun _ => ⟨List.mem_append_right _ (List.mem_singleton_self _), hf.sta0 hp.2⟩⟩
    · simp only [hcb, if_false] at hc
      rcases h.gn c u hc with k | ⟨k1, k2, k3⟩
      · exact .inl k
      · exact .inr ⟨k1, Nat.lt_of_lt_of_le k2 hp.2.size, fun hi => ⟨List.mem_append_left _ (k3 hi).1, (k3 hi).2.sta0 hp.2⟩⟩, fun d hd => by
    have hs2 := hp.2.size
    have hs1 := h.sta.size
    rcases hd with hd | hd
    · exact (h.sn d hd).imp id fun h => ⟨h.1, Nat.lt_of_lt_of_le h.2 hs2⟩
    · exact .inr (by omega)⟩
def psOf (w : World) (b i : Nat) : Value := match w.heap[b]? with
  | some (.cells cs _ _) => cs.getD i .nilIface
  | _ => .nilIface
end Go.Proofs.YtpiegpegjbmlkaaGreatDoor
namespace Go.Proofs.YtpiegpegjbmlkaaGreatDoor
open Go Go.Kd
set_option maxRecDepth 100000

set_option maxHeartbeats 6000000 in
theorem typ_iface (D : List De) (K : Cfg) (i : Nat) (t : Ty) (hk : t.kind = 9) (ih : ∀ e, wt e < wt t → TypC D K i e) : TypC D K i t := by
  intro s w bb made p cs hx ha hb
  replace hb : wt t + made.length ≤ 268435456 := hb
  obtain ⟨a, cp, rfl, hv⟩ := ha.open
  obtain ⟨v, hs⟩ := ha.sh
  have hcap := hv.cap
  have hn0 := hs.shape.n0 (by rw [hk]; simp [limitN])
  have hn1 := hs.shape.n1 (by rw [hk]; simp [limitN])
  rw [hk] at hn1
  have hn2 : t.n < 2 := by simpa [limitN] using hn1
  have hc0 := hs.shape.c0 (.inr hk)
  have hc1 := hs.shape.c1 (.inr hk)
  obtain ⟨c, hc⟩ := Int.eq_ofNat_of_zero_le hc0
  have hcl : c ≤ t.elems.length := by omega
  obtain ⟨m, hm⟩ := Int.eq_ofNat_of_zero_le hn0
  have hm2 : m < 2 := by omega
  have hwt := wt_eq t
  have hlen := wts_len t.elems
  obtain ⟨na, nl, nc, vm, hbb, how, hnm⟩ := hx.bi.ex
  obtain ⟨pc, px, hpc, hpk⟩ := hx.bi.pkg t.n (by omega)
  have pkc : ∀ (W : World) (u : Value), Has W bb (.cells #[s.pk 0, s.pk 1, .slice na nl nc, s.er, u] tBU) → W.cell? ⟨bb, m, none⟩ = some (pt pc) := fun W u h => by
    rw [← hpc, hm]
    match m, hm2 with
    | 0, _ => exact cell_of h rfl
    | 1, _ => exact cell_of h rfl
  have hl : tyc t a cp = tyl 9 m c t.vr (.slice a t.elems.length cp) t.name t.tag t.emb := by unfold tyc; rw [hk, hm, hc]
  rw [hl]
  refine W.enter (args := [pt bb, .agg (tyl 9 m c t.vr (.slice a t.elems.length cp) t.name t.tag t.emb).toArray]) Tryz.func79 rfl Tryz.ntmps79 rfl rfl ?_
  refine zst ?_
  refine WU.stp rfl rfl rfl (by first | exact stp_box rfl rfl | exact stp_box1 rfl rfl) ?_
  rintro _ w1 ⟨b1, rfl, n1⟩
  have ib1 := n1.has
  refine zst ?_
  have hnb1 : K.nb < w1.heap.size := Nat.lt_of_lt_of_le hx.bi.nbL n1.ext.size
  refine W.loop (σ := Nat × Value) (fun (k, vp) => [(144, .int .i64 k), (143, .int .i64 c), (142, .slice a c cp), (9, vp), (3, pt b1), (0, pt bb)])
    (fun (k, vp) D' wk => D' = [] ∧ k ≤ c ∧ Has wk b1 (.cells (tyl 9 m c t.vr (.slice a t.elems.length cp) t.name t.tag t.emb).toArray 26) ∧ ∃ s' new vb vv, GI (rkI (pt pc) c) K s w1 bb made t.elems k k 0 vp (.slice none 0 0) s' new vb vv wk ∧ SigN w1 wk t.elems k vv)
    (fun (k, _) => c - k) (0, .slice none 0 0)
    ⟨rfl, Nat.zero_le _, ib1, s, [], fun _ => 0, fun _ => .nilIface, GI.nil _ _ (hx.bi.ext n1.ext) _ _, fun i e hi => by omega⟩
    (by exact sub_of ⟨rfl, rfl, rfl, rfl, rfl, rfl, trivial⟩) ?_
  rintro ⟨k, vp⟩ D' wk ⟨rfl, hkc, ibk, s', new, vb, vv, hI, hSg⟩
  refine zst ?_
  by_cases hlt : k < c
  · rw [show decide ((k : Int) < (c : Int)) = true by simpa using hlt]
    have hltl : k < t.elems.length := by omega
    have he := List.getElem?_eq_getElem hltl
    generalize t.elems[k] = e at he
    obtain ⟨b, o, a3, c3, rfl, hpb, hcc, hae⟩ := ha.el hv he
    have hm' := hI.m
    have xk : Sta K 0 w wk := (Sta.of_ext n1.ext).trans hm'.sta
    have hck : Cells wk b (o + k * 8) (tyc e a3 c3) := Cells.sameB (xk.old b (ha.p b hpb).1 (ha.p b hpb).2) hcc
    have hwe := take_wts he
    have hwl := take_le (l := t.elems) (k + 1)
    have hln := hm'.len
    refine zst ?_
    refine WU.yld rfl rfl rfl (yld_load_cells rfl hck) ?_
    refine WU.stp rfl rfl rfl stp_alloc ?_
    rintro _ w2 ⟨b2, rfl, n2⟩
    refine WU.stp0 rfl rfl (stp_store_whole rfl rfl rfl rfl) ?_
    rintro _ w3 u3
    have x3 : Ext wk w3 := (u3.ofNew n2).ext
    have ib3 := ibk.ext' x3
    have ie3 := u3.has
    obtain ⟨vm3, hbb3⟩ := Has.staB (xk.ext x3) hbb
    obtain ⟨F, hFd⟩ : ∃ F : World → Prop, ∀ W, F W ↔ (Has W b2 (.cells (tyc e a3 c3).toArray 26) ∧ Has W b1 (.cells (tyl 9 m c t.vr (.slice (some ⟨b, o, none⟩) t.elems.length cp) t.name t.tag t.emb).toArray 26) ∧ ∃ u, Has W bb (.cells #[s.pk 0, s.pk 1, .slice na nl nc, s.er, u] tBU)) := ⟨fun W => (Has W b2 (.cells (tyc e a3 c3).toArray 26) ∧ Has W b1 (.cells (tyl 9 m c t.vr (.slice (some ⟨b, o, none⟩) t.elems.length cp) t.name t.tag t.emb).toArray 26) ∧ ∃ u, Has W bb (.cells #[s.pk 0, s.pk 1, .slice na nl nc, s.er, u] tBU)), fun _ => Iff.rfl⟩
    refine zst ?_
    refine W.regR (R := fun a b => F a → F b) (fun _ h => h) (fun _ _ _ h k x => k (h x)) [(0, .q), (1, .q), (2, .q), (3, .q), (4, .q), (5, .q), (6, .q), (7, .q), (8, .q), (9, .q), (10, .q), (11, .q), (12, .l), (13, .l), (14, .l), (15, .l), (16, .q)] (by kernel_rfl) (by kernel_rfl) rfl ?_
    intro w4 x4 _
    have hF : F w4 := (hFd _).2 ⟨ie3.ext' x4, ib3.ext' x4, vm3, hbb3.ext' x4⟩
    have x34 := x3.trans x4
    (repeat (first
        | refine WR.nilk ?_
        | refine WR.nil ?_
        | refine WR.yld (fun _ h => h) rfl rfl rfl rfl (fun w' hx => by obtain ⟨i1, i0, u, i2⟩ := (hFd _).1 (hx hF); first | exact zyl | (exact by first | exact yld_indexAddr_arr (i := m) rfl rfl (by omega) | exact yld_load_c rfl (pkc _ u i2)) | exact yld_indexAddr_arr rfl rfl (by omega)) ?_
        | refine WR.skip rfl rfl rfl rfl ?_))
    have hx4 : Ctx D K i s' w4 bb (made ++ new) := ((hx.ext n1.ext).made hm').ext x34
    have hek : e.kind = 8 := hs.shape.mth hk k e he (by rw [hc]; omega)
    have hwte := wt_el he
    refine WR.stp rfl rfl rfl rfl (stp_call rfl (c_signature D K i e hek (fun j e' he' => ih e' (Nat.lt_trans (wt_el he') hwte)) s' w4 bb (made ++ new) p _ none hx4 ((hae.sta xk).ext x34) (by rw [List.length_append]; show _ ≤ 268435456; omega))) ?_
    rintro r w5 ⟨eb, ps5, rs5, s2, new2, rfl, m5, rt5, hge5, hh5⟩
    have hF : F w5 := by
      obtain ⟨i1, i0, u, i2⟩ := (hFd _).1 hF
      exact (hFd _).2 ⟨Has.sta m5.sta i1, Has.sta m5.sta i0, Has.staB m5.sta i2⟩
    refine ⟨fun _ => hF, ?_⟩
    (repeat (first
        | refine WR.nilk ?_
        | refine WR.nil ?_
        | refine WR.yld (fun _ h => h) rfl rfl rfl rfl (fun w' hx => by obtain ⟨i1, i0, u, i2⟩ := (hFd _).1 (hx hF); first | exact zyl | (exact by first | exact yld_indexAddr_arr (i := m) rfl rfl (by omega) | exact yld_load_c rfl (pkc _ u i2)) | exact yld_indexAddr_arr rfl rfl (by omega)) ?_
        | refine WR.skip rfl rfl rfl rfl ?_))
    refine WR.stp rfl rfl rfl rfl (stp_call rfl (c_NewFunc 0 (some ⟨pc, 0, none⟩) e.name eb w5)) ?_
    rintro _ w6 ⟨b6, rfl, n6⟩
    have hF : F w6 := by
      obtain ⟨i1, i0, u, i2⟩ := (hFd _).1 hF
      exact (hFd _).2 ⟨i1.ext' n6.ext, i0.ext' n6.ext, u, i2.ext' n6.ext⟩
    refine ⟨fun _ => hF, ?_⟩
    (repeat (first
        | refine WR.nilk ?_
        | refine WR.nil ?_
        | refine WR.yld (fun _ h => h) rfl rfl rfl rfl (fun w' hx => by obtain ⟨i1, i0, u, i2⟩ := (hFd _).1 (hx hF); first | exact zyl | (exact by first | exact yld_indexAddr_arr (i := m) rfl rfl (by omega) | exact yld_load_c rfl (pkc _ u i2)) | exact yld_indexAddr_arr rfl rfl (by omega)) ?_
        | refine WR.skip rfl rfl rfl rfl ?_))
    have hI6 := hI.next he x34 (show wts e.elems ≤ wt e by rw [wt_eq e]; omega) m5 rt5 n6 (fun i hi => absurd hi (Nat.not_lt_zero _))
    refine WR.stp rfl rfl rfl rfl (stp_buildSlice rfl rfl rfl rfl rfl) ?_
    rintro _ w7 ⟨b7, rfl, n7⟩
    have hF : F w7 := by
      obtain ⟨i1, i0, u, i2⟩ := (hFd _).1 hF
      exact (hFd _).2 ⟨i1.ext' n7.ext, i0.ext' n7.ext, u, i2.ext' n7.ext⟩
    refine ⟨fun _ => hF, ?_⟩
    (repeat (first
        | refine WR.nilk ?_
        | refine WR.nil ?_
        | refine WR.yld (fun _ h => h) rfl rfl rfl rfl (fun w' hx => by obtain ⟨i1, i0, u, i2⟩ := (hFd _).1 (hx hF); first | exact zyl | (exact by first | exact yld_indexAddr_arr (i := m) rfl rfl (by omega) | exact yld_load_c rfl (pkc _ u i2)) | exact yld_indexAddr_arr rfl rfl (by omega)) ?_
        | refine WR.skip rfl rfl rfl rfl ?_))
    have hI7 := hI6.ext n7.ext
    have hsz1 := n1.ext.size
    refine WR.stp rfl rfl rfl rfl (stp_append1 (el := tFN) rfl rfl hI7.op (Cells.has n7.has) rfl rfl (by omega) (by simp [Value.oneCell']) (by rw [List.length_map, List.length_range]; omega) (Nat.le_trans hI7.m.sta.size (Nat.le_refl _))) ?_
    rintro v' w8 ⟨o8, a8, g8⟩
    have hF : F w8 := by
      obtain ⟨i1, i0, u, i2⟩ := (hFd _).1 hF
      exact (hFd _).2 ⟨Has.app (el := tFN) a8 hI7.op i1 (by decide), Has.app (el := tFN) a8 hI7.op i0 (by decide), u, Has.app (el := tFN) a8 hI7.op i2 (by decide)⟩
    refine ⟨fun _ => hF, ?_⟩
    (repeat (first
        | refine WR.nilk ?_
        | refine WR.nil ?_
        | refine WR.yld (fun _ h => h) rfl rfl rfl rfl (fun w' hx => by obtain ⟨i1, i0, u, i2⟩ := (hFd _).1 (hx hF); first | exact zyl | (exact by first | exact yld_indexAddr_arr (i := m) rfl rfl (by omega) | exact yld_load_c rfl (pkc _ u i2)) | exact yld_indexAddr_arr rfl rfl (by omega)) ?_
        | refine WR.skip rfl rfl rfl rfl ?_))
    have hI8 := hI7.app1 a8 (by rw [put_same]; exact o8) g8 (by omega) hnb1
    obtain ⟨je8, jb8, _, _⟩ := (hFd _).1 hF
    have hSg8 : SigN w1 w8 t.elems (k + 1) (put vv k (.iface tSP (pt eb))) := fun j e' hj he' => by
      have mv : ∀ {sb : Nat} {cs : Array Value}, Has w5 sb (.cells cs tSG) → Has w8 sb (.cells cs tSG) := fun h => Has.app (el := tFN) a8 hI7.op ((h.ext' n6.ext).ext' n7.ext) (by decide)
      by_cases hjk : j = k
      · subst hjk
        rw [he] at he'
        cases he'
        rw [put_same]
        exact ⟨(eb, none), (0, ps5), (0, rs5), rfl, by have := hm'.sta.size; have := x34.size; show _ ≤ eb; omega, mv hh5⟩
      · rw [put_lt vv _ (by omega)]
        obtain ⟨sb, ps, rs, q1, q2, q3⟩ := hSg j e' (by omega) he'
        exact ⟨sb, ps, rs, q1, q2, mv (Has.sta0 m5.sta (by decide) (by decide) (q3.ext' x34))⟩
    refine zst ?_
    exact ⟨(k + 1, v'), by show c - (k + 1) < c - k; omega, ⟨rfl, by omega, jb8, s2, new ++ new2, put vb k b6, put vv k (.iface tSP (pt eb)), hI8, hSg8⟩, sub_of ⟨rfl, rfl, rfl, rfl, rfl, rfl, trivial⟩⟩
  · rw [show decide ((k : Int) < (c : Int)) = false by simpa using hlt]
    obtain rfl : k = c := by omega
    refine zst ?_
    refine W.loop (σ := Nat × Value) (fun (j, ve) => [(171, .int .i64 j), (170, .int .i64 (t.elems.length - k : Nat)), (169, .slice (past a k cp 8) (t.elems.length - k) (cp - k)), (9, vp), (12, ve), (3, pt b1), (0, pt bb)])
      (fun (j, ve) D' wk => D' = [] ∧ j ≤ t.elems.length - k ∧ Has wk b1 (.cells (tyl 9 m k t.vr (.slice a t.elems.length cp) t.name t.tag t.emb).toArray 26) ∧ ∃ s' new vb vv, GI (rkI (pt pc) k) K s w1 bb made t.elems (k + j) k j vp ve s' new vb vv wk ∧ SigN w1 wk t.elems k vv)
      (fun (j, _) => t.elems.length - k - j) (0, .slice none 0 0)
      ⟨rfl, Nat.zero_le _, ibk, s', new, vb, vv, hI, hSg⟩
      (by exact sub_of ⟨rfl, rfl, rfl, rfl, rfl, rfl, rfl, trivial⟩) ?_
    clear hI hSg ibk s' new vb vv
    rintro ⟨j, ve⟩ D' wl ⟨rfl, hjl, ibl, s', new, vb, vv, hI, hSg⟩
    refine zst ?_
    by_cases hltj : j < t.elems.length - k
    · rw [show decide ((j : Int) < ((t.elems.length - k : Nat) : Int)) = true by simpa using hltj]
      have hltl : k + j < t.elems.length := by omega
      have he := List.getElem?_eq_getElem hltl
      generalize t.elems[k + j] = e at he
      obtain ⟨b, o, a3, c3, rfl, hpb, hcc, hae⟩ := ha.el hv he
      have hm' := hI.m
      have xl : Sta K 0 w wl := (Sta.of_ext n1.ext).trans hm'.sta
      have hck : Cells wl b (o + k * 8 + j * 8) (tyc e a3 c3) := by
        rw [show o + k * 8 + j * 8 = o + (k + j) * 8 from by omega]
        exact Cells.sameB (xl.old b (ha.p b hpb).1 (ha.p b hpb).2) hcc
      have hpast : past (some ⟨b, o, none⟩) k cp 8 = some ⟨b, o + k * 8, none⟩ := by
        unfold past
        rw [if_neg (by omega)]
        exact congrArg some (Addr.add_mid ..)
      rw [hpast]
      have hwe := take_wts he
      have hwl := take_le (l := t.elems) (k + j + 1)
      have hln := hm'.len
      refine zst ?_
      refine WU.yld rfl rfl rfl (yld_load_cells rfl hck) ?_
      refine WU.stp rfl rfl rfl stp_alloc ?_
      rintro _ w2 ⟨b2, rfl, n2⟩
      refine WU.stp0 rfl rfl (stp_store_whole rfl rfl rfl rfl) ?_
      rintro _ w3 u3
      have x3 : Ext wl w3 := (u3.ofNew n2).ext
      have ib3 := ibl.ext' x3
      have ie3 := u3.has
      refine zst ?_
      refine WU.stp rfl rfl rfl (stp_call rfl (ih e (wt_el he) s' w3 bb (made ++ new) p _ (((hx.ext n1.ext).made hm').ext x3) ((hae.sta xl).ext x3) (by rw [List.length_append]; show _ ≤ 268435456; omega))) ?_
      rintro r w5 ⟨s2, new2, m5, rt5, T, eb, rfl⟩
      have hI5 := hI.next0 he x3 (Nat.le_refl _) m5 rt5 (fun i hi => put_lt vv _ (by omega)) (Nat.le_add_right _ _)
      refine WU.stp rfl rfl rfl (stp_buildSlice rfl rfl rfl rfl rfl) ?_
      rintro _ w7 ⟨b7, rfl, n7⟩
      have hI7 := hI5.ext n7.ext
      have hsz1 := n1.ext.size
      refine WU.stp rfl rfl rfl (stp_append1 (el := tTY) rfl rfl hI7.or (Cells.has n7.has) rfl rfl (by omega) (by simp [Value.oneCell']) (by rw [List.length_map, List.length_range]; omega) (Nat.le_trans hI7.m.sta.size (Nat.le_refl _))) ?_
      rintro v' w8 ⟨o8, a8, g8⟩
      have hI8 := hI7.app2 a8 (by show Own _ _ _ _ _ (_ ++ [[put vv (k + j) _ (k + j)]]); rw [put_same]; exact o8) g8 hnb1
      have jb8 := Has.app (el := tTY) a8 hI7.or ((Has.sta m5.sta ib3).ext' n7.ext) (by decide)
      have hSg8 : SigN w1 w8 t.elems k (put vv (k + j) (.iface T (pt eb))) := fun q e' hq he' => by
        rw [put_lt vv _ (by omega)]
        obtain ⟨sb, ps, rs, q1, q2, q3⟩ := hSg q e' hq he'
        exact ⟨sb, ps, rs, q1, q2, Has.app (el := tTY) a8 hI7.or ((Has.sta0 m5.sta (by decide) (by decide) (q3.ext' x3)).ext' n7.ext) (by decide)⟩
      refine zst ?_
      rw [← hpast]
      exact ⟨(j + 1, v'), by show t.elems.length - k - (j + 1) < t.elems.length - k - j; omega, ⟨rfl, by omega, jb8, s2, new ++ new2, vb, put vv (k + j) (.iface T (pt eb)), hI8, hSg8⟩, sub_of ⟨rfl, rfl, rfl, rfl, rfl, rfl, rfl, trivial⟩⟩
    · rw [show decide ((j : Int) < ((t.elems.length - k : Nat) : Int)) = false by simpa using hltj]
      obtain rfl : j = t.elems.length - k := by omega
      rw [show k + (t.elems.length - k) = t.elems.length from by omega] at hI
      obtain ⟨ma, mc, rfl, hr1⟩ := Own.row1 hI.op
      obtain ⟨ea, ec, rfl, hr2⟩ := Own.row1 hI.or
      have hI' := hI.m
      rw [List.take_length] at hI'
      have xl : Sta K 0 w wl := (Sta.of_ext n1.ext).trans hI'.sta
      have hel : ∀ i, i < t.elems.length → t.elems[i]? = some (t.elems.getD i anyT) := fun i hi => by rw [List.getD_eq_getElem?_getD, List.getElem?_eq_getElem hi]; rfl
      have htk : ∀ i, i < k → (t.elems.take k)[i]? = some (t.elems.getD i anyT) := fun i hi => by rw [List.getElem?_take_of_lt hi]; exact hel i (by omega)
      have huq := ha.lg.here.unq hk
      rw [show t.count.toNat = k from by omega] at huq
      obtain ⟨u1, u2⟩ := uniq_names huq
      have hsb : ∀ i, i < k → vv i = .iface tSP (pt (sbOf (vv i))) ∧ w1.heap.size ≤ sbOf (vv i) ∧ SigP wl (sbOf (vv i)) (psOf wl (sbOf (vv i)) 2) (psOf wl (sbOf (vv i)) 3) (t.elems.getD i anyT).vr := fun i hi => by
        obtain ⟨sb, ps, rs, q1, q2, q3⟩ := hSg i _ hi (hel i (by omega))
        rw [q1]
        have hpo : ∀ x, psOf wl sb.1 x = (#[.pointer none, .pointer none, .pointer ps.2, .pointer rs.2, .bool (t.elems.getD i anyT).vr] : Array Value).getD x .nilIface := fun x => by unfold psOf; rw [q3.at_]
        refine ⟨rfl, q2, none, ?_⟩
        show Has wl sb.1 (.cells #[.pointer none, .pointer none, psOf wl sb.1 2, psOf wl sb.1 3, _] tSG)
        rw [hpo, hpo]
        exact q3
      have hfr : FRow wl k vb (fun _ => pt pc) (fun i => (t.elems.getD i anyT).name) (fun _ => pth t.n) (fun i => .iface tSP (pt (sbOf (vv i)))) := ⟨fun i hi => by
          have := (hI.var i _ (by omega) (show i < k from hi) (hel i (by omega))).2
          show FuncV wl (vb i) (pt pc) _ (.iface tSP (pt (sbOf (vv i))))
          rw [← (hsb i hi).1]
          exact this, fun i hi => ⟨⟨_, rfl⟩, fun _ => ⟨pc, px, rfl, Has.sta xl hpk, pth_ne _⟩⟩, fun i hi => (u1 i _ (htk i hi)).asc, fun i j hi hj heq => by
          have h1 := (idS_inj (u1 i _ (htk i hi)) (u1 j _ (htk j hj)) (pth_nodot _) (pth_nodot _) heq).1
          rcases Nat.lt_trichotomy i j with h | h | h
          · exact absurd (u2 i j _ _ h (htk i hi) (htk j hj) h1) (ha.lg.here.mth hk i _ (hel i (by omega)) (by omega))
          · exact h
          · exact absurd (u2 j i _ _ h (htk j hj) (htk i hi) h1.symm) (ha.lg.here.mth hk j _ (hel j (by omega)) (by omega))⟩
      have hNw := hx.bi.nbN
      refine zst ?_
      refine WU.stp rfl rfl rfl (stp_call rfl (c_NewInterfaceType K ma ea k mc (t.elems.length - k) ec vb (fun i => sbOf (vv i)) (fun _ => pt pc) (fun i => (t.elems.getD i anyT).name) (fun _ => pth t.n) (fun i => psOf wl (sbOf (vv i)) 2) (fun i => psOf wl (sbOf (vv i)) 3) (fun i => (t.elems.getD i anyT).vr) wl (hx.prp.sta xl hx.gN) hx.gN (fun a' ha' => by
                have h1 : (Value.slice ma k mc).ownBlock = some a'.block := by rw [ha']; rfl
                have h2 := hI.op.lt _ h1
                have := hx.gN
                exact ⟨by omega, h2.2⟩) (fun i hi => by
                obtain ⟨g, cs', q1, _, _, q3, q4⟩ := hr1 i hi
                exact ⟨g, cs', q1, q3, q4⟩) hfr (fun i hi => (hsb i hi).2.2) (fun i hi => by have := (hsb i hi).2.1; omega) (by omega))) ?_
      rintro _ w2 ⟨b, rfl, hbg, hblt, hr⟩
      obtain ⟨d1, d2, d3, d4⟩ := iface_done hk hc hcl (hx.ext n1.ext) hpc hI rfl rfl hbg hr hSg
      obtain ⟨na', nl', nc', vm', hbb2, how2, hnm2⟩ := d1.bi.ex
      have hNb := d1.bi.N
      have hln2 := d1.len
      refine zst ?_
      refine WU.stp rfl rfl rfl (stp_buildSlice rfl rfl rfl rfl rfl) ?_
      rintro _ w3 ⟨b3, rfl, n3⟩
      have hbb3 := hbb2.ext' n3.ext
      have how3 := how2.ext n3.ext
      refine WU.stp rfl rfl rfl (stp_append1 (el := tPI) rfl rfl how3 (Cells.has n3.has) rfl rfl (by omega) (by simp [Value.oneCell']) (by rw [List.length_map, List.length_append]; omega) (by have := hbb3.lt; omega)) ?_
      rintro v' w4 ⟨o4, a4, _⟩
      have hbb4 : Has w4 bb (.cells #[s'.pk 0, s'.pk 1, .slice na' nl' nc', s'.er, vm'] tBU) := App.keep a4 hbb3 (Own.ne how3 hbb3 (by decide))
      obtain ⟨sa, scp, hsh, _, _⟩ := o4.shape
      subst hsh
      refine zst ?_
      refine WU.stp0 rfl rfl (stp_store_cell rfl rfl rfl rfl) ?_
      rintro _ w5 u5
      refine zst ?_
      have hkb : Kno K ((s'.set b t).clo w1.heap.size w3.heap.size) w3 b := ⟨t, Gs.set_same .., .inl hk, by rw [hx.dk]; exact ⟨⟨i, v, hx.il, hs⟩, by show wt t ≤ 268435456; omega, ha.lg⟩, ((RT.ext n3.ext d2).le (Gs.gle_seal ..).le).mono fun d hd h => .inr ⟨h, hd⟩⟩
      have hpu := (((d1.bi.ext n3.ext).set (t := t) d4 (Nat.lt_of_lt_of_le hblt n3.ext.size)).clo w1.heap.size (Nat.le_refl _)).push (b := b) hkb hbb3 how3 (fun i u hu => by
        obtain ⟨cs, q1, q2, q3, q4⟩ := hnm2 i u hu
        exact ⟨cs, q1, q2, q3.ext' n3.ext, q4⟩) a4 o4 u5
      have hsz := d1.sta.size
      have hsz1 := n1.ext.size
      have hd3 : Fresh w3 b t := d3.sta0 (K := K) (.of_ext n3.ext)
      have dm := (d1.ext n3.ext).pushIf d4 (by have := hI'.sta.size; omega) (Nat.lt_of_lt_of_le hblt n3.ext.size) hd3 hpu
      exact fin1 (.inl rfl) rfl rfl ⟨_, _, (dm.before n1.ext).le (by omega), (((RT.ext n3.ext d2).sta hpu.2 (by omega)).le (Gs.gle_seal ..).le).mono fun d _ hd => Nat.le_trans hsz1 hd, _, _, rfl⟩
end Go.Proofs.YtpiegpegjbmlkaaGreatDoor
namespace Go.Proofs.YtpiegpegjbmlkaaGreatDoor
open Go Go.Kd
set_option maxRecDepth 100000

theorem typ_basic (D : List De) (K : Cfg) (i : Nat) (t : Ty) (hk : t.kind = 0) : TypC D K i t := by
  intro s w bb made p cs hx ha hb
  replace hb : wt t + made.length ≤ 268435456 := hb
  obtain ⟨a, cp, rfl, hv⟩ := ha.open
  obtain ⟨v, hs⟩ := ha.sh
  have hn0 := hs.shape.n0 (by rw [hk]; simp [limitN])
  have hn1 := hs.shape.n1 (by rw [hk]; simp [limitN])
  rw [hk] at hn1
  have hn2 : t.n < 22 := by simpa [limitN] using hn1
  have hl : tyc t a cp = tyl 0 t.n t.count t.vr (.slice a t.elems.length cp) t.name t.tag t.emb := by unfold tyc; rw [hk]
  rw [hl]
  refine W.enter (args := [pt bb, .agg (tyl 0 t.n t.count t.vr (.slice a t.elems.length cp) t.name t.tag t.emb).toArray]) Tryz.func79 rfl Tryz.ntmps79 rfl rfl ?_
  refine zst ?_
  refine WU.stp rfl rfl rfl (by first | exact stp_box rfl rfl | exact stp_box1 rfl rfl) ?_
  rintro _ w1 ⟨b1, rfl, n1⟩
  refine zst ?_
  refine WU.stp rfl rfl rfl (stp_call rfl (c_basic D K i s w1 bb made t (hx.ext n1.ext) hk hn0 hn2 (by omega) ⟨⟨i, v, hx.il, hs⟩, by show wt t ≤ 268435456; omega, ha.lg⟩)) ?_
  rintro r w2 hr
  refine zst ?_
  exact fin1 (.inl rfl) rfl rfl (hr.before n1.ext)
theorem c_typ (D : List De) (K : Cfg) (i : Nat) : ∀ (n : Nat) (t : Ty), wt t ≤ n → TypC D K i t := by
  intro n
  induction n with
  | zero => intro t ht; have := wt_pos t; omega
  | succ n ih =>
    intro t ht s w bb made p cs hx ha hb
    obtain ⟨v, hs⟩ := ha.sh
    have h0 := hs.shape.lo
    have h9 := hs.shape.hi
    have hel : ∀ (j : Nat) e, t.elems[j]? = some e → TypC D K i e := fun j e he => ih e (by have := wt_el he; omega)
    have key : TypC D K i t := by
      rcases (show t.kind = 0 ∨ t.kind = 1 ∨ t.kind = 2 ∨ t.kind = 3 ∨ t.kind = 4 ∨ t.kind = 5 ∨ t.kind = 6 ∨ t.kind = 7 ∨ t.kind = 8 ∨ t.kind = 9 by omega) with h | h | h | h | h | h | h | h | h | h
      · exact typ_basic D K i t h
      · exact typ_named D K i t h
      · exact typ_pointer D K i t h hel
      · exact typ_slice D K i t h hel
      · exact typ_array D K i t h hel
      · exact typ_map D K i t h hel
      · exact typ_chan D K i t h hel
      · exact typ_struct D K i t h hel
      · exact typ_func D K i t h hel
      · exact typ_iface D K i t h fun e he => ih e (by omega)
    exact key s w bb made p cs hx ha hb
theorem c_typ' (D : List De) (K : Cfg) (i : Nat) (t : Ty) : TypC D K i t := c_typ D K i _ t (Nat.le_refl _)
end Go.Proofs.YtpiegpegjbmlkaaGreatDoor
namespace Go.Kd
variable {P : Program} {e : Env} {w : World} {d : Option Tmp} {ty t t2 : TypeId} {pos : String} {aft : Array Edge} {g : Option (Nat × Bool)} {x y z : Operand}
theorem run_call_or {f : FuncId} {fn : Go.Func} (hf : P.funcs[f]? = some fn) (hname : (fn.name == "runtime.NumGoroutine") = false) (hb : fn.body.isNone = true) (hn : Extern.findNext fn = none) (k : IntKind)
    (he : Extern.find fn = some (Extern.Atomic.update (Op.intBits .or) k false)) {a : Addr} {x y s : Int} {w : World} (hc : w.cell? a = some (.int k x)) (hz : w.frozen? a = false)
    (hs : (Op.intBits .or k x y).run P w = .ok (.int k s) w) :
    (callFunc f #[.pointer (some a), .int k y]).run P w = .ok (.value (.int k x)) (w.setCell a (.int k s)) := by
  rw [run_callFunc_extern hf hname hb hn he]
  change (Sem.run P (do
    let a' ← asAddr (.pointer (some a))
    let old ← Extern.Atomic.read (.int k) a'
    let new ← Op.intBits .or k (← asInt old) (← asInt (.int k y))
    store a' new .atomic
    pure (if false then new else old)) w).andThen _ = _
  simp [Extern.Atomic.read, asAddr, asInt, asIntOf, hc, hz, hs, run_store P w a (.int k s) .atomic rfl, Result.andThen]
theorem stp_callv {k : FuncId} {args : List Operand} {tys : Array TypeId} {vs : List Value} {v : Value} {w' : World} (ha : evs e args = some vs) (hr : (callFunc k vs.toArray).run P w = .ok (.value v) w') :
    Stp P e ⟨d, .call ⟨.value (.func k), args.toArray, tys⟩, ty, pos, aft, g⟩ w (fun v' w'' => v' = v ∧ w'' = w') := ⟨fun ρ hρ => by
  have hv : args.toArray.map ρ = vs.toArray := by rw [← evs_spec hρ args vs ha]; simp
  have h1 : ρ (.func k) = .func (.func k) #[] #[] := hρ _ _ rfl
  simp only [execOp, resolve, hv, h1, Deferred.ofValue, invoke, Sem.run_bind, Sem.run_pure, Result.andThen_ok, Array.append_empty, Array.empty_append]
  rw [hr]
  exact ⟨rfl, rfl⟩⟩
theorem Upd.setCell {w : World} {b i : Nat} {cs : Array Value} {t : TypeId} (h : Has w b (.cells cs t (0, 0))) (v : Value) : Upd w b (.cells (cs.setIfInBounds i v) t (0, 0)) (w.setCell ⟨b, i, none⟩ v) := by
  have hl := h.lt
  have hat := h.at_
  refine ⟨⟨?_⟩, fun c hc => ?_, ?_, rfl, rfl, rfl⟩
  · unfold World.setCell
    simp only
    rw [Array.getElem?_modify, if_pos rfl, hat]
    rfl
  · unfold World.setCell
    simp only
    rw [Array.getElem?_modify, if_neg (Ne.symm hc)]
  · unfold World.setCell
    simp
theorem Upd.trans {w w2 w3 : World} {b : Nat} {o o' : Obj} (h : Upd w b o w2) (k : Upd w2 b o' w3) : Upd w b o' w3 :=
  ⟨k.has, fun c hc => (k.oth c hc).trans (h.oth c hc), k.size.trans h.size, k.os.trans h.os, k.tape.trans h.tape, k.output.trans h.output⟩
theorem Has.frozen {w : World} {b i : Nat} {cs : Array Value} {t : TypeId} (h : Has w b (.cells cs t (0, 0))) : w.frozen? ⟨b, i, none⟩ = false := by
  unfold World.frozen?
  rw [h.at_]
  simp
/-- a call is put off -/
theorem WU.defer {n : Nat} {ops : List Oper} {Q : Post} {D : List Deferred} {rest : List Oper} {k : FuncId} {args : List Operand} {tys : Array TypeId} {vs : List Value} (ha : evs e args = some vs)
    (hk : WU P n ops Q rest ({ target := .fn (.func k) #[], args := vs.toArray } :: D) e w) : WU P n ops Q (⟨none, .defer ⟨.value (.func k), args.toArray, tys⟩, ty, pos, aft, none⟩ :: rest) D e w := ⟨fun a hfa => by
  unfold wpList
  rw [wn_spec (r := true) rfl hfa, if_pos rfl]
  left
  have hv : args.toArray.map a.eval = vs.toArray := by rw [← evs_spec hfa.ag args vs ha]; simp
  have h1 : a.eval (.func k) = .func (.func k) #[] #[] := hfa.ag _ _ rfl
  have he : (execOp a.eval ⟨none, .defer ⟨.value (.func k), args.toArray, tys⟩, ty, pos, aft, none⟩).run P w = .ok (.defer { target := .fn (.func k) #[], args := vs.toArray }) w := by
    simp only [execOp, resolve, hv, h1, Deferred.ofValue, Sem.run_bind, Sem.run_pure, Result.andThen_ok, Array.empty_append]
  unfold Oper.wp
  rw [he]
  exact hk.out _ ⟨hfa.size, by show _ :: a.defers = _; rw [hfa.defers], hfa.get⟩⟩
/-- a function that puts off one call -/
theorem W.enterD {k : Nat} {fn : Go.Func} {c : Code} {args : List Value} {w : World} {R : Value → World → Prop} {n : Nat} (hf : P.funcs[k]? = some fn) (hb : fn.body = some c)
    (hn : fn.ntmps = n) (hl : Nat.ble args.length n = true) {e : Env} (he : argO args = some e) (hres : fn.results = #[])
    (h : W P n c (fun x D _ w' => (x = .ret ∨ x = .normal) ∧ ∃ f ag fnf, D = [{ target := .fn (.func f) #[], args := ag }] ∧ P.funcs[f]? = some fnf ∧ (fnf.name == "runtime.NumGoroutine") = false ∧ fnf.body.isNone = false ∧
      CallsD P f ag .returning w' fun x u w'' => u = .returning ∧ ∃ v, x = .returned v ∧ R (.tuple #[]) w'') [] e w) : Calls P k args.toArray w (Ret R) := by
  refine calls_of_wp_defers hf hb (wp_mono ((argO_eq args e he ▸ h : W P n c _ [] (argE args 0) w).out { tmps := args.toArray ++ Array.replicate (fn.ntmps - args.toArray.size) undef, defers := [] } ⟨by have := Nat.le_of_ble_eq_true hl; simp; omega, rfl, fun i v hi => by
      obtain ⟨_, h2⟩ := argE_lk args 0 i v hi
      simp only [Nat.sub_zero] at h2
      have : i < args.length := (List.getElem?_eq_some_iff.1 h2).1
      rw [Array.getElem?_append_left (by simpa using this)]
      simpa using h2⟩) fun x a' w' hx => ?_)
  have fin : ∀ (a' : Act) D' e' f ag fnf, Fr n D' e' a' → D' = [{ target := .fn (.func f) #[], args := ag }] → P.funcs[f]? = some fnf → (fnf.name == "runtime.NumGoroutine") = false → fnf.body.isNone = false →
      (CallsD P f ag .returning w' fun x u w'' => u = .returning ∧ ∃ v, x = .returned v ∧ R (.tuple #[]) w'') → Leaves P fn a'.tmps (Ret R) a'.defers .returning w' := fun a' D' e' f ag fnf ha hD h1 h2 h3 h4 => by
    rw [ha.defers, hD]
    refine ⟨fun h => (by cases h), .func f, #[], f, ag, rfl, ?_, ?_⟩
    · simp only [invoke, callFunc, program, bind, Sem.bind, Sem.run, pure, h1, h2, h3, Bool.false_eq_true, if_false, Array.append_empty]
    · intro c cs hc
      obtain ⟨e2, u', w'', fr, hR, rest⟩ := h4 c cs hc
      obtain ⟨rfl, v, rfl, hR'⟩ := hR
      refine ⟨.returned v, .returning, w'', fr, ?_, rest⟩
      exact ⟨_, run_results (vs := []) ha (by rw [hres]; exact .nil), _, rfl, hR'⟩
  cases x with
  | normal => obtain ⟨D', e', ha, -, f, ag, fnf, h1, h2, h3, h4, h5⟩ := hx; exact fin _ D' e' f ag fnf ha h1 h2 h3 h4 h5
  | ret => obtain ⟨D', e', ha, -, f, ag, fnf, h1, h2, h3, h4, h5⟩ := hx; exact fin _ D' e' f ag fnf ha h1 h2 h3 h4 h5
  | panic ch => exact hx.elim
  | outgrown => exact hx.elim
  | exit id => obtain ⟨_, _, _, h, _⟩ := hx; rcases h with h | h <;> cases h
  | goto l => obtain ⟨_, _, _, h, _⟩ := hx; rcases h with h | h <;> cases h
end Go.Kd
namespace Go.Proofs.YtpiegpegjbmlkaaGreatDoor
open Go Go.Kd
set_option maxRecDepth 100000

abbrev muLink : Go.Conc.Locks.MuLink := { lock := 121, unlock := 122, ilock := 155, iunlock := 156, lockSlow := 179, unlockSlow := 182, disable := 175, enable := 177, acquire := 178, relMerge := 180, cas32 := 176, add32 := 181, tMutex := 183, tIMutex := 181, tPMutex := 267, tPIMutex := 292, tPI32 := 294, tUP := 296, tNoCopy := 178, tU32 := 179 }
theorem muLib : Go.Conc.Locks.MuLib Tryz.prog muLink :=
  ⟨Tryz.func121, Tryz.func122, Tryz.func155, Tryz.func156, Tryz.func175, Tryz.func177, Tryz.func178, Tryz.func180, Tryz.func176, Tryz.func181,
   Tryz.underlying181, Tryz.runUnderlying181, Tryz.sizeOf181, Tryz.isAgg181, Tryz.zeroValue181, Tryz.underlying183, Tryz.runUnderlying183, Tryz.sizeOf183, Tryz.isAgg183, Tryz.zeroValue183, Tryz.underlying267, Tryz.runUnderlying267, Tryz.sizeOf267, Tryz.isAgg267, Tryz.zeroValue267,
   Tryz.underlying292, Tryz.runUnderlying292, Tryz.sizeOf292, Tryz.isAgg292, Tryz.zeroValue292, Tryz.underlying294, Tryz.runUnderlying294, Tryz.sizeOf294, Tryz.isAgg294, Tryz.zeroValue294, Tryz.underlying296, Tryz.runUnderlying296, Tryz.sizeOf296, Tryz.isAgg296, Tryz.zeroValue296,
   Tryz.underlying178, Tryz.runUnderlying178, Tryz.sizeOf178, Tryz.isAgg178, Tryz.zeroValue178, Tryz.underlying21, Tryz.runUnderlying21, Tryz.sizeOf21, Tryz.isAgg21, Tryz.zeroValue21, (by kernel_rfl)⟩

/-- a named type's cells -/
abbrev nmc (obj : Value) (nilOk : Bool) (mu st : Int) (rhs u ms : Value) : Array Value := #[.pointer none, obj, .bool nilOk, .int .i32 mu, .int .u32 0, .int .u32 st, rhs, u, .bool false, ms]
def NamV (w : World) (b : Nat) (obj u ms : Value) : Prop := Has w b (.cells (nmc obj false 0 15 u u ms) tNM)
theorem c_stateHas (b : Nat) (m : Int) (obj u ms : Value) (w : World) (h : NamV w b obj u ms) (hm : m = 3 ∨ m = 8) : Calls Tryz.prog 158 #[pt b, .int .u32 m] w (Ret fun r w' => r = .bool true ∧ w = w') := by
  have h' : Has w b (.cells (nmc obj false 0 15 u u ms) tNM) := h
  refine W.enter (args := [pt b, .int .u32 m]) Tryz.func158 rfl Tryz.ntmps158 rfl rfl ?_
  refine zst ?_
  refine WU.stp rfl rfl rfl (stp_callv rfl (run_call_load Tryz.func183 (by kernel_rfl) (by kernel_rfl) (by kernel_rfl) .u32 (by kernel_rfl) (cell_of h' (i := 5) rfl))) ?_
  rintro _ _ ⟨rfl, rfl⟩
  rcases hm with rfl | rfl
  · refine zst ?_
    refine WU.yld rfl rfl rfl (yld_and rfl rfl) ?_
    refine zst ?_
    exact fin1 (.inl rfl) rfl rfl ⟨rfl, rfl⟩
  · refine zst ?_
    refine WU.yld rfl rfl rfl (yld_and rfl rfl) ?_
    refine zst ?_
    exact fin1 (.inl rfl) rfl rfl ⟨rfl, rfl⟩
end Go.Proofs.YtpiegpegjbmlkaaGreatDoor
namespace Go.Proofs.YtpiegpegjbmlkaaGreatDoor
open Go Go.Kd
set_option maxRecDepth 100000

abbrev tNP : Nat := 117
theorem run_or07 (P : Program) (w : World) : (Op.intBits .or .u32 0 7).run P w = .ok (.int .u32 7) w := by simp [Op.intBits]; decide
theorem run_or78 (P : Program) (w : World) : (Op.intBits .or .u32 7 8).run P w = .ok (.int .u32 15) w := by simp [Op.intBits]; decide
theorem c_setState (b : Nat) (m x s : Int) (obj rhs u ms : Value) (n0 : Bool) (mu : Int) (w : World) (h : Has w b (.cells (nmc obj n0 mu x rhs u ms) tNM)) (hs : ∀ w, (Op.intBits .or .u32 x m).run Tryz.prog w = .ok (.int .u32 s) w) :
    Calls Tryz.prog 123 #[pt b, .int .u32 m] w (Ret fun _ w' => Upd w b (.cells (nmc obj n0 mu s rhs u ms) tNM) w') := by
  refine W.enter (args := [pt b, .int .u32 m]) Tryz.func123 rfl Tryz.ntmps123 rfl rfl ?_
  refine zst ?_
  refine WU.stp rfl rfl rfl (stp_callv rfl (run_call_or Tryz.func157 (by kernel_rfl) (by kernel_rfl) (by kernel_rfl) .u32 (by kernel_rfl) (cell_of h (i := 5) rfl) (Has.frozen h) (hs w))) ?_
  rintro _ _ ⟨rfl, rfl⟩
  refine zst ?_
  have hu := Upd.setCell (i := 5) h (.int .u32 s)
  exact fin0 (.inr rfl) rfl hu
theorem c_asNamed_no (T : Nat) (v : Value) (w : World) (h1 : Nat.beq T tAL = false) (h2 : Nat.beq T tNP = false) : Calls Tryz.prog 97 #[.iface T v] w (Ret fun r w' => r = .pointer none ∧ w = w') := by
  refine W.enter (args := [.iface T v]) Tryz.func97 rfl Tryz.ntmps97 rfl rfl ?_
  refine zst ?_
  refine WU.stp rfl rfl rfl (stp_call rfl (c_Unalias_no T v w h1)) ?_
  rintro _ _ ⟨rfl, rfl⟩
  refine zst ?_
  exact fin1 (.inl rfl) rfl rfl ⟨rfl, rfl⟩
theorem c_Unalias_nil (w : World) : Calls Tryz.prog 102 #[.nilIface] w (Ret fun r w' => r = .nilIface ∧ w = w') := by
  refine W.enter (args := [.nilIface]) Tryz.func102 rfl Tryz.ntmps102 rfl rfl ?_
  refine zst ?_
  exact fin1 (.inl rfl) rfl rfl ⟨rfl, rfl⟩
theorem c_asNamed_nil (w : World) : Calls Tryz.prog 97 #[.nilIface] w (Ret fun r w' => r = .pointer none ∧ w = w') := by
  refine W.enter (args := [.nilIface]) Tryz.func97 rfl Tryz.ntmps97 rfl rfl ?_
  refine zst ?_
  refine WU.stp rfl rfl rfl (stp_call rfl (c_Unalias_nil w)) ?_
  rintro _ _ ⟨rfl, rfl⟩
  refine zst ?_
  exact fin1 (.inl rfl) rfl rfl ⟨rfl, rfl⟩
set_option maxHeartbeats 2000000 in
theorem c_SetUnderlying (b ub T : Nat) (obj ms : Value) (n0 : Bool) (w : World) (h : Has w b (.cells (nmc obj n0 0 0 .nilIface .nilIface ms) tNM)) (h1 : Nat.beq T tAL = false) (h2 : Nat.beq T tNP = false) :
    Calls Tryz.prog 80 #[pt b, .iface T (pt ub)] w (Ret fun _ w' => Upd w b (.cells (nmc obj false 0 15 (.iface T (pt ub)) (.iface T (pt ub)) ms) tNM) w') := by
  refine W.enterD (args := [pt b, .iface T (pt ub)]) Tryz.func80 rfl Tryz.ntmps80 rfl rfl rfl ?_
  refine zst ?_
  refine WU.stp rfl rfl rfl (stp_call rfl (c_asNamed_no T _ w h1 h2)) ?_
  rintro _ _ ⟨rfl, rfl⟩
  refine zst ?_
  have hlock : Calls Tryz.prog 121 #[.pointer (some ⟨b, 3, none⟩)] w (Ret fun _ w' => w' = w.setCell ⟨b, 3, none⟩ (.int .i32 1)) :=
    (Go.MuLone.lock_free muLib ⟨b, 3, none⟩ w (cell_of h rfl) (Has.frozen h)).mono fun e w' ⟨he, hw⟩ => ⟨_, he, hw⟩
  refine WU.stp rfl rfl rfl (stp_call rfl hlock) ?_
  rintro v w1 hw1
  have u1 := Upd.setCell (i := 3) h (.int .i32 1)
  rw [← hw1] at u1
  have k1 : Has w1 b (.cells (nmc obj n0 1 0 .nilIface .nilIface ms) tNM) := u1.has
  refine zst ?_
  refine WU.defer rfl ?_
  refine zst ?_
  refine WU.stp0 rfl rfl (stp_store_cell rfl rfl rfl rfl) ?_
  rintro _ w2 u2
  have k2 := u2.has
  refine zst ?_
  refine WU.stp0 rfl rfl (stp_store_cell rfl rfl rfl rfl) ?_
  rintro _ w3 u3
  have k3 : Has w3 b (.cells (nmc obj false 1 0 (.iface T (pt ub)) .nilIface ms) tNM) := u3.has
  refine zst ?_
  refine WU.stp rfl rfl rfl (stp_call rfl (c_setState b 7 0 7 _ _ _ _ _ _ w3 k3 (run_or07 _))) ?_
  rintro _ w4 u4
  have k4 := u4.has
  refine zst ?_
  refine WU.stp0 rfl rfl (stp_store_cell rfl rfl rfl rfl) ?_
  rintro _ w5 u5
  have k5 : Has w5 b (.cells (nmc obj false 1 7 (.iface T (pt ub)) (.iface T (pt ub)) ms) tNM) := u5.has
  refine zst ?_
  refine WU.stp rfl rfl rfl (stp_call rfl (c_setState b 8 7 15 _ _ _ _ _ _ w5 k5 (run_or78 _))) ?_
  rintro _ w6 u6
  have k6 := u6.has
  refine zst ?_
  refine ⟨.inr rfl, 122, _, _, rfl, Tryz.func122, by kernel_rfl, by kernel_rfl, ?_⟩
  intro c cs hc
  obtain ⟨e2, u', w'', fr, ⟨rfl, rfl, rfl⟩, rest⟩ := Go.MuLone.unlock_deferred muLib ⟨b, 3, none⟩ .returning w6 (cell_of k6 rfl) (Has.frozen k6) c cs hc
  refine ⟨_, _, _, fr, ⟨rfl, _, rfl, ?_⟩, rest⟩
  have u7 := Upd.setCell (i := 3) k6 (.int .i32 0)
  exact (((((u1.trans u2).trans u3).trans u4).trans u5).trans u6).trans u7

/-! ### Underlying types of what is not named -/
theorem c_unpack (b : Nat) (obj u ms : Value) (w : World) (h : NamV w b obj u ms) : Calls Tryz.prog 125 #[pt b] w (Ret fun r w' => r = pt b ∧ w = w') := by
  refine W.enter (args := [pt b]) Tryz.func125 rfl Tryz.ntmps125 rfl rfl ?_
  refine zst ?_
  refine WU.stp rfl rfl rfl (stp_call rfl (c_stateHas b 3 obj u ms w h (.inl rfl))) ?_
  rintro _ _ ⟨rfl, rfl⟩
  refine zst ?_
  exact fin1 (.inl rfl) rfl rfl ⟨rfl, rfl⟩
theorem c_rhs (b : Nat) (obj u ms : Value) (w : World) (h : NamV w b obj u ms) : Calls Tryz.prog 271 #[pt b] w (Ret fun r w' => r = u ∧ w = w') := by
  have h' : Has w b (.cells (nmc obj false 0 15 u u ms) tNM) := h
  refine W.enter (args := [pt b]) Tryz.func271 rfl Tryz.ntmps271 rfl rfl ?_
  refine zst ?_
  exact fin1 (.inl rfl) rfl rfl ⟨rfl, rfl⟩
theorem c_Named_Underlying (b T ub : Nat) (obj ms : Value) (w : World) (h : NamV w b obj (.iface T (pt ub)) ms) : Calls Tryz.prog 269 #[pt b] w (Ret fun r w' => r = .iface T (pt ub) ∧ w = w') := by
  have h' : Has w b (.cells (nmc obj false 0 15 (.iface T (pt ub)) (.iface T (pt ub)) ms) tNM) := h
  refine W.enter (args := [pt b]) Tryz.func269 rfl Tryz.ntmps269 rfl rfl ?_
  refine zst ?_
  refine WU.stp rfl rfl rfl (stp_call rfl (c_unpack b _ _ _ w h)) ?_
  rintro _ _ ⟨rfl, rfl⟩
  refine zst ?_
  refine WU.stp rfl rfl rfl (stp_call rfl (c_rhs b _ _ _ w h)) ?_
  rintro _ _ ⟨rfl, rfl⟩
  refine zst ?_
  refine WU.stp rfl rfl rfl (stp_call rfl (c_stateHas b 8 _ _ _ w h (.inr rfl))) ?_
  rintro _ _ ⟨rfl, rfl⟩
  refine zst ?_
  exact fin1 (.inl rfl) rfl rfl ⟨rfl, rfl⟩
end Go.Proofs.YtpiegpegjbmlkaaGreatDoor
namespace Go.Proofs.YtpiegpegjbmlkaaGreatDoor
open Go Go.Kd
set_option maxRecDepth 100000

abbrev tAB : Nat := 266
def TnV (w : World) (ob : Nat) (pk : Value) (nm : ByteArray) (v : Value) : Prop := Has w ob (.cells #[.int .i64 0, pk, .string nm, v] tTN)
theorem c_newNamed (ob : Nat) (pk : Value) (nm : ByteArray) (w : World) (h : TnV w ob pk nm .nilIface) :
    Calls Tryz.prog 105 #[.pointer none, pt ob, .nilIface, .slice none 0 0] w (Ret fun r w' => ∃ b w1, r = pt b ∧ New w b (.cells (nmc (pt ob) false 0 0 .nilIface .nilIface (.slice none 0 0)) tNM) w1 ∧ Upd w1 ob (.cells #[.int .i64 0, pk, .string nm, .iface tNP (pt b)] tTN) w') := by
  have h' : Has w ob (.cells #[.int .i64 0, pk, .string nm, .nilIface] tTN) := h
  refine W.enter (args := [.pointer none, pt ob, .nilIface, .slice none 0 0]) Tryz.func105 rfl Tryz.ntmps105 rfl rfl ?_
  refine zst ?_
  refine WU.stp rfl rfl rfl (by first | exact stp_box rfl rfl | exact stp_box1 rfl rfl) ?_
  rintro _ w1 ⟨b1, rfl, n1⟩
  have h1 := h'.ext' n1.ext
  refine zst ?_
  refine WU.stp0 rfl rfl (stp_store_cell rfl rfl rfl rfl) ?_
  rintro _ w2 u2
  refine zst ?_
  exact fin1 (.inl rfl) rfl rfl ⟨b1, w1, rfl, n1, u2⟩
theorem c_NewNamed (ob : Nat) (pk : Value) (nm : ByteArray) (w : World) (h : TnV w ob pk nm .nilIface) :
    Calls Tryz.prog 76 #[pt ob, .nilIface, .slice none 0 0] w (Ret fun r w' => ∃ b, r = pt b ∧ w.heap.size ≤ b ∧ Has w' b (.cells (nmc (pt ob) true 0 0 .nilIface .nilIface (.slice none 0 0)) tNM) ∧ TnV w' ob pk nm (.iface tNP (pt b)) ∧ RowKit.Below ob w w') := by
  have h' : Has w ob (.cells #[.int .i64 0, pk, .string nm, .nilIface] tTN) := h
  refine W.enter (args := [pt ob, .nilIface, .slice none 0 0]) Tryz.func76 rfl Tryz.ntmps76 rfl rfl ?_
  refine zst ?_
  refine WU.stp rfl rfl rfl (stp_call rfl (c_asNamed_nil w)) ?_
  rintro _ _ ⟨rfl, rfl⟩
  refine zst ?_
  refine WU.stp rfl rfl rfl (stp_call rfl (c_newNamed ob pk nm w h)) ?_
  rintro _ w2 ⟨b, w1, rfl, n1, u2⟩
  have hbn := n1.num
  have hne : b ≠ ob := by have := h'.lt; omega
  have h2 : Has w2 b (.cells (nmc (pt ob) false 0 0 .nilIface .nilIface (.slice none 0 0)) tNM) := ⟨(u2.oth b hne).trans n1.has.at_⟩
  refine zst ?_
  refine WU.stp0 rfl rfl (stp_store_cell rfl rfl rfl rfl) ?_
  rintro _ w3 u3
  refine zst ?_
  have h3 : Has w3 b (.cells (nmc (pt ob) true 0 0 .nilIface .nilIface (.slice none 0 0)) tNM) := u3.has
  refine fin1 (.inl rfl) rfl rfl ⟨b, rfl, Nat.le_of_eq hbn.symm, h3, ⟨(u3.oth ob (Ne.symm hne)).trans u2.has.at_⟩, ?_⟩
  have hlt := h'.lt
  exact bel_upd (bel_upd (n1.ext.below.mono (Nat.le_of_lt hlt)) u2 (Nat.le_refl _)) u3 (by omega)
theorem c_name (bb : Nat) (p0 p1 ns er md : Value) (e : De) (a1 : Option Addr) (c1 : Nat) (a2 : Option Addr) (c2 : Nat) (pa : Nat → Option Addr) (w : World) (h0 : p0 = .pointer (pa 0)) (h1 : p1 = .pointer (pa 1)) (h : Has w bb (.cells #[p0, p1, ns, er, md] tBU)) (hp : e.pkg = 0 ∨ e.pkg = 1) :
    Calls Tryz.prog 77 #[pt bb, .agg (del e a1 c1 a2 c2).toArray] w (Ret fun r w' => ∃ ob, r = pt ob ∧ w.heap.size ≤ ob ∧ TnV w' ob (.pointer (pa e.pkg.toNat)) e.name .nilIface ∧ Ext w w') := by
  subst h0 h1
  obtain ⟨m, hm⟩ : ∃ m : Nat, e.pkg = m ∧ m < 2 := by
    rcases hp with h | h
    · exact ⟨0, h, by omega⟩
    · exact ⟨1, h, by omega⟩
  have pkc : ∀ W, Has W bb (.cells #[.pointer (pa 0), .pointer (pa 1), ns, er, md] tBU) → W.cell? ⟨bb, m, none⟩ = some (.pointer (pa m)) := fun W h => by
    match m, hm.2 with
    | 0, _ => exact cell_of h rfl
    | 1, _ => exact cell_of h rfl
  unfold del
  rw [hm.1, Int.toNat_natCast]
  refine W.enter (args := [pt bb, .agg #[.string e.name, .int .i64 m, .bool e.al, .int .i64 e.ty.kind, .int .i64 e.ty.n, .int .i64 e.ty.count, .bool e.ty.vr, .slice a1 e.ty.elems.length c1, .string e.ty.name, .string e.ty.tag, .bool e.ty.emb, .slice a2 e.ms.length c2]]) Tryz.func77 rfl Tryz.ntmps77 rfl rfl ?_
  refine zst ?_
  refine WU.stp rfl rfl rfl (by first | exact stp_box rfl rfl | exact stp_box1 rfl rfl) ?_
  rintro _ w1 ⟨b1, rfl, n1⟩
  refine zst ?_
  have ib1 := n1.has
  have hb1 := h.ext' n1.ext
  refine W.regD [(0, .q), (1, .q), (2, .q), (3, .q), (4, .q), (5, .q), (6, .q), (7, .q), (8, .q), (9, .l), (10, .q)] (by kernel_rfl) (by kernel_rfl) rfl ?_
  intro w2 x2 _
  have ib2 := ib1.ext' x2
  have hb2 := hb1.ext' x2
  have hm2 := hm.2
  have hcc := pkc w2 hb2
  refine zsd ?_
  refine WD.yld rfl rfl rfl rfl (yld_indexAddr_arr (i := m) rfl rfl (by omega)) ?_
  refine zsd ?_
  refine WD.yld rfl rfl rfl rfl (yld_load_c rfl hcc) ?_
  refine zsd ?_
  refine WD.stp rfl rfl rfl rfl (stp_call rfl (c_NewTypeName 0 (pa m) e.name w2)) ?_
  rintro _ w3 ⟨ob, rfl, n3⟩
  refine ⟨by first | assumption | exact Ext.rfl' _ | infer_instance, ?_⟩
  refine zsd ?_
  refine zst ?_
  have hge : w.heap.size ≤ ob := by have := n3.num; have := n1.ext.size; have := x2.size; omega
  exact fin1 (.inl rfl) rfl rfl ⟨ob, rfl, hge, n3.has, (n1.ext.trans x2).trans n3.ext⟩
end Go.Proofs.YtpiegpegjbmlkaaGreatDoor
namespace Go.Proofs.YtpiegpegjbmlkaaGreatDoor
open Go Go.Kd

/-- how deep interfaces embed others: less than k -/
def imR (D : List De) : Nat → Ty → Prop
  | 0, _ => False
  | k + 1, t => (underT D t).kind = 9 → ∀ (i : Nat) e, (underT D t).elems[i]? = some e → ¬ (i : Int) < (underT D t).count → imR D k e
theorem imR_succ {D : List De} : ∀ {k : Nat} {t : Ty}, imR D k t → imR D (k + 1) t
  | _ + 1, _, h => fun h9 i e he hc => imR_succ (h h9 i e he hc)
theorem imR_le {D : List De} {k m : Nat} {t : Ty} (hk : k ≤ m) (h : imR D k t) : imR D m t := by
  induction hk with
  | refl => exact h
  | step _ ih => exact imR_succ ih
theorem imR_congr {D : List De} {t u : Ty} (he : underT D t = underT D u) : ∀ {k : Nat}, imR D k t → imR D k u
  | k + 1, h => fun h9 i e hi hc => by rw [← he] at h9 hi hc; exact h h9 i e hi hc
theorem bound_list {α : Type} {P : Nat → Nat → α → Prop} (hm : ∀ i k m a, k ≤ m → P i k a → P i m a) (l : List α) (h : ∀ (i : Nat) a, l[i]? = some a → ∃ k, P i k a) : ∃ k, ∀ (i : Nat) a, l[i]? = some a → P i k a := by
  have key : ∀ n, ∃ k, ∀ (i : Nat) a, i < n → l[i]? = some a → P i k a := by
    intro n
    induction n with
    | zero => exact ⟨0, fun i a hi => by omega⟩
    | succ n ih =>
      obtain ⟨k, hk⟩ := ih
      cases hn : l[n]? with
      | none => exact ⟨k, fun i a hi ha => by
          by_cases hin : i = n
          · subst hin; rw [hn] at ha; cases ha
          · exact hk i a (by omega) ha⟩
      | some b =>
        obtain ⟨m, hb⟩ := h n b hn
        refine ⟨max k m, fun i a hi ha => ?_⟩
        by_cases hin : i = n
        · subst hin
          rw [hn] at ha
          cases ha
          exact hm _ m _ _ (Nat.le_max_right ..) hb
        · exact hm _ k _ _ (Nat.le_max_left ..) (hk i a (by omega) ha)
  obtain ⟨k, hk⟩ := key l.length
  exact ⟨k, fun i a ha => hk i a (List.getElem?_eq_some_iff.1 ha).1 ha⟩
theorem IM.rank {D : List De} {t : Ty} {ms : List Mt} (h : IM D t ms) : ∃ k, imR D k t := by
  induction h with
  | no t hk => exact ⟨1, fun h9 => absurd h9 hk⟩
  | yes t L h9 hL h1 h2 ih =>
    obtain ⟨k, hk⟩ := bound_list (P := fun (i : Nat) k e => ¬ (i : Int) < (underT D t).count → imR D k e) (fun i k m a hkm h hc => imR_le hkm (h hc)) (underT D t).elems fun i e he => by
      by_cases hc : (i : Int) < (underT D t).count
      · exact ⟨0, fun h => absurd hc h⟩
      · have hlt : i < L.length := by rw [hL]; exact (List.getElem?_eq_some_iff.1 he).1
        obtain ⟨k, hk⟩ := ih i e _ he (List.getElem?_eq_getElem hlt) hc
        exact ⟨k, fun _ => hk⟩
    exact ⟨k + 1, fun _ i e he hc => hk i e he hc⟩
/-- the rank -/
def rk (D : List De) (t : Ty) (k : Nat) : Prop := imR D k t ∧ ∀ j, j < k → ¬ imR D j t
theorem rk_exists {D : List De} {t : Ty} : ∀ {k : Nat}, imR D k t → ∃ j, j ≤ k ∧ rk D t j := by
  intro k
  induction k with
  | zero => exact fun h => h.elim
  | succ k ih =>
    intro h
    by_cases hk : imR D k t
    · obtain ⟨j, h1, h2⟩ := ih hk
      exact ⟨j, by omega, h2⟩
    · exact ⟨k + 1, Nat.le_refl _, h, fun j hj hi => hk (imR_le (by omega) hi)⟩

/-! ### Methods, merged -/
theorem addM_fold : ∀ {l : List Mt} {out : List Mt}, (l.map keyM).Nodup → l.foldl addM out = out ++ l.filter fun m => decide (keyM m ∉ out.map keyM)
  | [], out, _ => by simp
  | a :: l, out, h => by
    simp only [List.map_cons, List.nodup_cons] at h
    rw [List.foldl_cons]
    rcases addM_spec out a with ⟨h1, h2⟩ | ⟨h1, h2⟩
    · rw [h1, addM_fold h.2, List.filter_cons_of_neg (by simpa using h2)]
    · rw [h1, addM_fold h.2, List.filter_cons_of_pos (by simpa using h2), List.append_assoc]
      congr 1
      show [a] ++ _ = a :: _
      rw [List.singleton_append]
      congr 1
      apply List.filter_congr
      intro m hm
      have hne : keyM m ≠ keyM a := fun e => h.1 (by rw [← e]; exact List.mem_map_of_mem hm)
      simp only [List.map_append, List.map_cons, List.map_nil, List.mem_append, List.mem_singleton, decide_eq_decide, not_or]
      exact ⟨fun h => h.1, fun h => ⟨h, hne⟩⟩
theorem addM_perm {l l' out out' : List Mt} (hl : (l.map keyM).Nodup) (hp : l'.Perm l) (ho : out'.Perm out) : (l'.foldl addM out').Perm (l.foldl addM out) := by
  rw [addM_fold hl, addM_fold ((hp.map keyM).nodup_iff.2 hl)]
  have hf : ∀ m : Mt, decide (keyM m ∉ out'.map keyM) = decide (keyM m ∉ out.map keyM) := fun m => by
    rw [decide_eq_decide, (ho.map keyM).mem_iff]
  rw [List.filter_congr fun m _ => hf m]
  exact ho.append (hp.filter _)
def mergeE (L : List (List Mt)) (out : List Mt) : List Mt := L.foldl (fun o l => l.foldl addM o) out
theorem mergeM_hi (c : Int) : ∀ (i : Nat) (L : List (List Mt)) (out : List Mt), c ≤ i → mergeM c i L out = mergeE L out
  | _, [], _, _ => rfl
  | i, l :: L, out, h => by
    unfold mergeM
    rw [if_neg (by omega), mergeM_hi c (i + 1) L _ (by omega)]
    rfl
theorem mergeM_lo (c : Int) (L2 : List (List Mt)) : ∀ (L1 : List (List Mt)) (i : Nat) (out : List Mt), ((i + L1.length : Nat) : Int) ≤ c → mergeM c i (L1 ++ L2) out = mergeM c (i + L1.length) L2 (out ++ L1.flatten)
  | [], _, _, _ => by simp
  | l :: L, i, out, h => by
    simp only [List.length_cons] at h
    rw [List.cons_append]
    show mergeM c (i + 1) (L ++ L2) (if (i : Int) < c then out ++ l else l.foldl addM out) = _
    rw [if_pos (by omega), mergeM_lo c L2 L (i + 1) _ (by omega)]
    simp only [List.length_cons, List.flatten_cons, List.append_assoc]
    rw [show i + 1 + L.length = i + (L.length + 1) from by omega]
theorem flatten_single {α β : Type} (f : α → β) : ∀ l : List α, (l.map fun a => [f a]).flatten = l.map f
  | [] => rfl
  | a :: l => by simp [flatten_single f l]
/-- the methods that a type's text declares -/
def ownM (u : Ty) (c : Nat) : List Mt := (u.elems.take c).map fun e => ⟨e.name, u.n, e⟩
theorem IM.of {D : List De} {t u : Ty} {c : Nat} (hu : underT D t = u) (h9 : u.kind = 9) (hc : u.count = c) (hcl : c ≤ u.elems.length) (L : List (List Mt)) (hL : L.length = u.elems.length - c)
    (h : ∀ (j : Nat) e l, u.elems[c + j]? = some e → L[j]? = some l → IM D e l) : IM D t (mergeE L (ownM u c)) := by
  subst hu
  have h1 := IM.yes (D := D) t (((underT D t).elems.take c).map (fun e => [⟨e.name, (underT D t).n, e⟩]) ++ L) h9 (by simp; omega) (fun i e l he hl hi => by
      have hic : i < c := by omega
      rw [List.getElem?_append_left (by simp; omega), List.getElem?_map, List.getElem?_take_of_lt hic, he] at hl
      exact (Option.some.inj hl).symm) (fun i e l he hl hi => by
      have hic : c ≤ i := by omega
      obtain ⟨j, rfl⟩ := Nat.le.dest hic
      rw [List.getElem?_append_right (by simp; omega)] at hl
      have hlen : (((underT D t).elems.take c).map (fun e => ([⟨e.name, (underT D t).n, e⟩] : List Mt))).length = c := by simp; omega
      rw [hlen, show c + j - c = j from by omega] at hl
      exact h j e l he hl)
  have hlen : (((underT D t).elems.take c).map (fun e => ([⟨e.name, (underT D t).n, e⟩] : List Mt))).length = c := by simp; omega
  rw [mergeM_lo _ _ _ 0 [] (by rw [hlen, hc]; simp), mergeM_hi _ _ _ _ (by rw [hlen, hc]; simp), List.nil_append, flatten_single (fun e => (⟨e.name, (underT D t).n, e⟩ : Mt))] at h1
  exact h1
theorem mergeE_snoc (L : List (List Mt)) (l out : List Mt) : mergeE (L ++ [l]) out = l.foldl addM (mergeE L out) := by
  unfold mergeE
  rw [List.foldl_append]
  rfl
theorem foldl_snoc (l : List Mt) (m : Mt) (out : List Mt) : (l ++ [m]).foldl addM out = addM (l.foldl addM out) m := by
  rw [List.foldl_append]
  rfl
/-- declared methods' keys -/
theorem own_nodup {u : Ty} {c : Nat} (h : Uniq (names (u.elems.take c))) (hm : ∀ (i : Nat) e, u.elems[i]? = some e → i < c → e.name.toList ≠ us) : ((ownM u c).map keyM).Nodup := by
  have hk : (ownM u c).map keyM = (u.elems.take c).map fun e => keyOf e.name.toList u.n := by unfold ownM; rw [List.map_map]; rfl
  rw [hk, List.nodup_iff_pairwise_ne, List.pairwise_iff_getElem]
  intro i j hi hj hij
  simp only [List.length_map] at hi hj
  simp only [List.getElem_map]
  intro he
  have h1 : (u.elems.take c)[i].name.toList = (u.elems.take c)[j].name.toList := (Prod.ext_iff.1 he).1
  have hn : ∀ (k : Nat) (hk : k < (u.elems.take c).length), (names (u.elems.take c))[k]? = some (u.elems.take c)[k].name.toList := fun k hk => by
    unfold names
    rw [List.getElem?_map, List.getElem?_eq_getElem hk]
    rfl
  have h2 := h.un i j _ hij (hn i hi) (by rw [h1]; exact hn j hj)
  have hic : i < c := by rw [List.length_take] at hi; omega
  refine hm i (u.elems.take c)[i] ?_ hic h2
  rw [← List.getElem?_take_of_lt hic, List.getElem?_eq_getElem hi]
end Go.Proofs.YtpiegpegjbmlkaaGreatDoor
namespace Go.Proofs.YtpiegpegjbmlkaaGreatDoor
open Go Go.Kd

def tN (n : Nat) : Ty := .mk 1 n 0 false [] eB eB false
def errB : Ty := .mk 0 20 0 false [] eB eB false
theorem tN_kind (n : Nat) : (tN n).kind = 1 := rfl
theorem tN_n (n : Nat) : (tN n).n = n := rfl
theorem tN_inj {n m : Nat} (h : tN n = tN m) : n = m := by
  have := congrArg Ty.n h
  rw [tN_n, tN_n] at this
  omega
theorem isAl_n {D : List De} {t : Ty} {e : De} (hk : t.kind = 1) (he : D[t.n.toNat]? = some e) : isAl D t = e.al := by
  unfold isAl decl
  rw [if_pos hk, he]
theorem unal1_e {D : List De} {t : Ty} {e : De} (hk : t.kind = 1) (he : D[t.n.toNat]? = some e) (ha : e.al = true) : unal1 D t = e.ty := by
  unfold unal1 decl
  rw [if_pos hk, he]
  simp [ha]
/-- an alias stands for what it was declared to be -/
theorem unalias_step {D : List De} (hD : ShapedD D) {t : Ty} {e : De} (hk : t.kind = 1) (he : D[t.n.toNat]? = some e) (ha : e.al = true) : unaliasT D t = unaliasT D e.ty := by
  have hlt := (List.getElem?_eq_some_iff.1 he).1
  obtain ⟨m, hm⟩ : ∃ m, D.length = m + 1 := ⟨D.length - 1, by omega⟩
  have h1 : rep (unal1 D) D.length t = rep (unal1 D) m e.ty := by rw [hm, rep_succ', unal1_e hk he ha]
  have h2 : rep (unal1 D) D.length e.ty = rep (unal1 D) m e.ty := by
    cases hb : isAl D e.ty with
    | false => rw [rep_fix (unal1_id hb), rep_fix (unal1_id hb)]
    | true =>
      have hs := (hD _ e he).shape
      have hk' := isAl_kind hb
      have h3 := hs.nm hk' (.inl rfl)
      have h4 := hs.n0 (by rw [hk']; simp [limitN]; try omega)
      obtain ⟨j, e', _, _, _, h5, h6⟩ := unalias_al hD m e.ty (by omega) hb (by omega) h4
      rw [h6, hm, show m + 1 = m + 1 from rfl, rep_add (unal1 D) m e.ty 1, h6]
      exact unal1_id h5
  unfold unaliasT
  rw [h1, h2]
theorem under_of_unalias {D : List De} {t u : Ty} (h : unaliasT D t = unaliasT D u) : underT D t = underT D u := by unfold underT; rw [h]
theorem und1_e {D : List De} {t : Ty} {e : De} (hk : t.kind = 1) (he : D[t.n.toNat]? = some e) : und1 D t = unaliasT D e.ty := by
  unfold und1 decl
  rw [if_pos hk, he]
/-- a defined type has the underlying type of what it was declared by -/
theorem under_step {D : List De} (hD : ShapedD D) {t : Ty} {e : De} (hk : t.kind = 1) (he : D[t.n.toNat]? = some e) : underT D t = underT D e.ty := by
  cases ha : e.al with
  | true => exact under_of_unalias (unalias_step hD hk he ha)
  | false =>
    have hlt := (List.getElem?_eq_some_iff.1 he).1
    obtain ⟨m, hm⟩ : ∃ m, D.length = m + 1 := ⟨D.length - 1, by omega⟩
    have h0 : unaliasT D t = t := by rw [unalias_lit (by rw [isAl_n hk he]; exact ha), norm_named (by omega)]
    have h1 : rep (und1 D) D.length t = rep (und1 D) m (unaliasT D e.ty) := by rw [hm, rep_succ', und1_e hk he]
    have h2 : rep (und1 D) D.length (unaliasT D e.ty) = rep (und1 D) m (unaliasT D e.ty) := by
      by_cases hk' : (unaliasT D e.ty).kind = 1
      · have key : ∃ (b : Ty), unaliasT D e.ty = b ∧ b.kind = 1 ∧ b.n < m ∧ 0 ≤ b.n := by
          rcases unalias_cases hD (by omega) (hD _ e he) with ⟨h3, h4⟩ | ⟨j, e', h3, hj, h5, h6, h7, h8⟩
          · have hk2 : e.ty.kind = 1 := by rw [h4] at hk'; exact norm_kind1 hk'
            have hs := (hD _ e he).shape
            have h5 := hs.nm hk2 (.inl rfl)
            have h6 := hs.n0 (by rw [hk2]; simp [limitN]; try omega)
            exact ⟨e.ty, by rw [h4, norm_named (by omega)], hk2, by omega, h6⟩
          · have hk2 : e'.ty.kind = 1 := by rw [h8] at hk'; exact norm_kind1 hk'
            have hs := (hD _ e' h5).shape
            have h9 := hs.nm hk2 (.inl rfl)
            have h10 := hs.n0 (by rw [hk2]; simp [limitN]; try omega)
            exact ⟨e'.ty, by rw [h8, norm_named (by omega)], hk2, by omega, h10⟩
        obtain ⟨b, hb, hb1, hb2, hb3⟩ := key
        rw [hb]
        obtain ⟨j, e', _, _, h5, h6⟩ := und_nm hD m b (by omega) hb1 hb2 hb3
        rw [h6, hm, rep_add (und1 D) m b 1, h6]
        exact und1_lit (norm_kind_ne h5)
      · rw [rep_fix (und1_lit hk'), rep_fix (und1_lit hk')]
    unfold underT
    rw [h0, h1, h2]
/-- a literal, or a predeclared type, underlies itself -/
theorem under_lit {D : List De} {t : Ty} (hk : t.kind ≠ 1) (he : ¬ (t.kind = 0 ∧ t.n = 20)) : underT D t = norm t := by
  unfold underT
  rw [unalias_lit (isAl_lit hk), rep_fix (und1_lit (norm_kind_ne hk))]
  unfold errN
  rw [if_neg]
  rintro ⟨h1, h2⟩
  rcases norm_cases t with ⟨h3, h4⟩ | ⟨h3, _, _, h4, h5⟩ | ⟨_, _, h3⟩
  · rw [h4] at h1; exact h3 h1
  · rw [h4] at h2
    split at h2
    · omega
    · split at h2
      · omega
      · exact he ⟨h3, h2⟩
  · rw [h3] at h1; simp [anyT, Ty.kind] at h1
theorem under_err {D : List De} {t : Ty} (hk : t.kind = 0) (hn : t.n = 20) : underT D t = errT := by
  unfold underT
  rw [unalias_lit (isAl_lit (by omega))]
  have : norm t = t := by unfold norm; rw [if_pos hk, if_neg (by omega), if_neg (by omega), if_neg (by omega)]
  rw [this, rep_fix (und1_lit (by omega))]
  unfold errN
  rw [if_pos ⟨hk, hn⟩]
theorem under_norm_err : norm errT = errT := norm_named (by decide)
/-- an alias at the end of its chain -/
theorem unalias_end {D : List De} {t : Ty} (h : isAl D t = false) : unaliasT D t = norm t := unalias_lit h
end Go.Proofs.YtpiegpegjbmlkaaGreatDoor
namespace Go.Proofs.YtpiegpegjbmlkaaGreatDoor
open Go Go.Kd
set_option maxRecDepth 100000

/-- from a world to a later one, with more blocks that are read -/
theorem Tr.staM {K : Cfg} {l : Nat} {w w' : World} (x : Sta K l w w') (hl : l ≤ 3) {p q : Nat → Prop} (hq : ∀ d, d < w.heap.size → p d → q d) : Tr K w w' p q := ⟨fun b cs t hp ht h => by
  obtain ⟨cs', h1, h2⟩ := x.has ht h
  exact ⟨hq b h.lt hp, cs', h1, h2.lev hl⟩⟩
theorem Tr.sameM {K : Cfg} {w w' : World} {p q : Nat → Prop} (hs : ∀ b, p b → w'.heap[b]? = w.heap[b]?) (hq : ∀ d, p d → q d) : Tr K w w' p q := ⟨fun b cs _ hp _ h => ⟨hq b hp, cs, ⟨(hs b hp).trans h.at_⟩, .rfl' ..⟩⟩
theorem IfT.tr {K : Cfg} {w w' : World} {p q : Nat → Prop} (x : Tr K w w' p q) {b tb : Nat} (hp : p b) (h : IfT w b (pt tb)) : q b ∧ IfT w' b (pt tb) := by
  obtain ⟨ma, mn, mc', ea, en, ec, h⟩ := h
  obtain ⟨h0, cs', h1, h2⟩ := x.has _ _ _ hp (by decide) h
  obtain ⟨ts', rfl⟩ := h2.ifb
  have h6 := h2.cell 6 (by
    unfold Go.Proofs.YtpiegpegjbmlkaaGreatDoor.mc
    simp only [show ¬ tIF = tTY from by decide, if_false, if_true]
    rfl)
  have : ts' = pt tb := Option.some.inj h6
  subst this
  exact ⟨h0, ma, mn, mc', ea, en, ec, h1⟩
/-- the term list of all types; the blocks that are read: p -/
def AllQ (w : World) (p : Nat → Prop) (v : Value) : Prop := ∃ a c tb, v = .slice a 1 c ∧ RowQ w p tTP a 1 (fun _ => tb) ∧ p tb ∧ Has w tb (.cells #[.bool false, .nilIface] tTM)
theorem AllQ.tr {K : Cfg} {w w' : World} {p q : Nat → Prop} (x : Tr K w w' p q) {v : Value} (h : AllQ w p v) : AllQ w' q v := by
  obtain ⟨a, c, tb, h1, h2, h3, h4⟩ := h
  obtain ⟨k1, k2⟩ := x.imm h3 h4
  exact ⟨a, c, tb, h1, h2.tr x, k1, k2⟩
theorem AllQ.all {w : World} {p : Nat → Prop} {v : Value} (h : AllQ w p v) : AllT w v := by
  obtain ⟨a, c, tb, h1, h2, _, h4⟩ := h
  exact ⟨a, c, tb, h1, h2.row, h4⟩
/-- a method of a type set -/
def MthO (K : Cfg) (s : Gs) (w : World) (p : Nat → Prop) (m : Mt) (fb : Nat) : Prop :=
  ∃ pk sv, PkOk s m.pkg m.name pk ∧ p fb ∧ FuncV w fb pk m.name sv ∧ RT K s w p sv m.fn ∧ m.fn.kind = 8 ∧ Ident m.name.toList ∧ (m.pkg = 0 ∨ m.pkg = 1) ∧ m.name.size ≤ Big
theorem MthO.tr {K : Cfg} {s : Gs} {w w' : World} {p q : Nat → Prop} (x : Tr K w w' p q) {m : Mt} {fb : Nat} (h : MthO K s w p m fb) : MthO K s w' q m fb := by
  obtain ⟨pk, sv, h1, h2, h3, h4, h5⟩ := h
  obtain ⟨k1, k2⟩ := h3.tr x h2
  exact ⟨pk, sv, h1, k1, k2, h4.tr x, h5⟩
theorem MthO.le {K : Cfg} {s s' : Gs} {w : World} {p : Nat → Prop} (l : s.le s') {m : Mt} {fb : Nat} (h : MthO K s w p m fb) : MthO K s' w p m fb := by
  obtain ⟨pk, sv, h1, h2, h3, h4, h5⟩ := h
  exact ⟨pk, sv, by unfold PkOk at *; rw [l.pk]; exact h1, h2, h3, h4.le l, h5⟩
abbrev cmpM (m m' : Mt) : Int := cmpN m.name.toList (pth m.pkg).toList m'.name.toList (pth m'.pkg).toList
def Srtd (ms : List Mt) : Prop := ∀ (i j : Nat) m m', i < j → ms[i]? = some m → ms[j]? = some m' → cmpM m m' < 0
/-- a type set that has been computed -/
structure TSo (K : Cfg) (s : Gs) (w : World) (p : Nat → Prop) (b tb : Nat) (t : Ty) (ms : List Mt) (fb : Nat → Nat) : Prop where
  pb : p b
  ptb : p tb
  ib : IfT w b (pt tb)
  im : ∃ ms0, IM K.D t ms0 ∧ ms.Perm ms0
  srt : Srtd ms
  tsb : ∃ a c v, Has w tb (.cells #[.bool false, .slice a ms.length c, v, .bool false] tTS) ∧ AllQ w p v ∧ RowQ w p tFN a ms.length fb
  mth : ∀ (i : Nat) m, ms[i]? = some m → MthO K s w s.sl m (fb i)
theorem TSo.tr {K : Cfg} {s : Gs} {w w' : World} {p q : Nat → Prop} (x : Tr K w w' p q) (y : Tr K w w' s.sl s.sl) {b tb : Nat} {t : Ty} {ms : List Mt} {fb : Nat → Nat} (h : TSo K s w p b tb t ms fb) : TSo K s w' q b tb t ms fb := by
  obtain ⟨a, c, v, h1, h2, h3⟩ := h.tsb
  obtain ⟨k1, k2⟩ := h.ib.tr x h.pb
  obtain ⟨k3, k4⟩ := x.imm h.ptb h1
  exact ⟨k1, k3, k2, h.im, h.srt, ⟨a, c, v, k4, h2.tr x, h3.tr x⟩, fun i m hm => (h.mth i m hm).tr y⟩
theorem TSo.le {K : Cfg} {s s' : Gs} {w : World} {p : Nat → Prop} (l : s.le s') (hs : ∀ d, s.sl d → s'.sl d) {b tb : Nat} {t : Ty} {ms : List Mt} {fb : Nat → Nat} (h : TSo K s w p b tb t ms fb) : TSo K s' w p b tb t ms fb :=
  ⟨h.pb, h.ptb, h.ib, h.im, h.srt, h.tsb, fun i m hm => ((h.mth i m hm).le l).tr (.mono fun d _ => hs d)⟩
def TSv (K : Cfg) (s : Gs) (w : World) (p : Nat → Prop) (b : Nat) (t : Ty) : Prop := ∃ tb ms fb, TSo K s w p b tb t ms fb
theorem TSv.tr {K : Cfg} {s : Gs} {w w' : World} {p q : Nat → Prop} (x : Tr K w w' p q) (y : Tr K w w' s.sl s.sl) {b : Nat} {t : Ty} (h : TSv K s w p b t) : TSv K s w' q b t := by
  obtain ⟨tb, ms, fb, h⟩ := h
  exact ⟨tb, ms, fb, h.tr x y⟩
theorem TSv.le {K : Cfg} {s s' : Gs} {w : World} {p : Nat → Prop} (l : s.le s') (hs : ∀ d, s.sl d → s'.sl d) {b : Nat} {t : Ty} (h : TSv K s w p b t) : TSv K s' w p b t := by
  obtain ⟨tb, ms, fb, h⟩ := h
  exact ⟨tb, ms, fb, h.le l hs⟩

/-- only type sets that were not there have been computed -/
structure Cpl (K : Cfg) (w w' : World) : Prop where
  os : w'.os = w.os
  tape : w'.tape = w.tape
  output : w'.output = w.output
  size : w.heap.size ≤ w'.heap.size
  old : ∀ b, b < K.N → b < w.heap.size → w'.heap[b]? = w.heap[b]?
  blk : ∀ (d : Nat) (o : Obj), w.heap[d]? = some o → (∀ cs, o ≠ Obj.cells cs tIF (0, 0)) → w'.heap[d]? = some o
  ifs : ∀ (d : Nat) (cs : Array Value), w.heap[d]? = some (.cells cs tIF (0, 0)) → ∃ cs', w'.heap[d]? = some (.cells cs' tIF (0, 0)) ∧ MOk K 1 d tIF cs cs'
theorem Cpl.sta {K : Cfg} {w w' : World} (x : Cpl K w w') : Sta K 1 w w' := ⟨x.os, x.tape, x.output, x.size, x.old, fun b cs t fz _ _ h => by
    by_cases hi : t = tIF ∧ fz = (0, 0)
    · obtain ⟨rfl, rfl⟩ := hi
      exact x.ifs b cs h
    · exact ⟨cs, x.blk b _ h fun cs' e => by
        cases e
        exact hi ⟨rfl, rfl⟩, .rfl' ..⟩, fun b o _ h ho => x.blk b o h fun cs => ho cs tIF (0, 0)⟩
theorem Cpl.of_ext {K : Cfg} {w w' : World} (x : Ext w w') : Cpl K w w' := ⟨x.below.os, x.below.tape, x.below.output, x.below.size, fun b _ hb => x.below.block b hb, fun d o h _ => by rw [x.below.block d (Array.getElem?_eq_some_iff.1 h).1]; exact h,
  fun d cs h => ⟨cs, by rw [x.below.block d (Array.getElem?_eq_some_iff.1 h).1]; exact h, .rfl' ..⟩⟩
theorem Cpl.rfl' (K : Cfg) (w : World) : Cpl K w w := .of_ext (Ext.rfl' w)
theorem Cpl.trans {K : Cfg} {a b c : World} (h : Cpl K a b) (k : Cpl K b c) : Cpl K a c :=
  ⟨k.os.trans h.os, k.tape.trans h.tape, k.output.trans h.output, Nat.le_trans h.size k.size, fun d hd ha => (k.old d hd (by have := h.size; omega)).trans (h.old d hd ha), fun d o ha ho => k.blk d o (h.blk d o ha ho) ho, fun d cs ha => by
    obtain ⟨cs', h1, h2⟩ := h.ifs d cs ha
    obtain ⟨cs2, h3, h4⟩ := k.ifs d cs' h1
    exact ⟨cs2, h3, h2.trans h4⟩⟩
/-- a store into what is newer -/
theorem Cpl.upd_new {K : Cfg} {w0 w w' : World} {b : Nat} {o : Obj} (h : Cpl K w0 w) (u : Upd w b o w') (hb : w0.heap.size ≤ b) : Cpl K w0 w' :=
  ⟨u.os.trans h.os, u.tape.trans h.tape, u.output.trans h.output, by rw [u.size]; exact h.size, fun d hd ha => by rw [u.oth d (by omega)]; exact h.old d hd ha, fun d o' ha ho => by
    have hlt := (Array.getElem?_eq_some_iff.1 ha).1
    rw [u.oth d (by omega)]; exact h.blk d o' ha ho, fun d cs ha => by
    have hlt := (Array.getElem?_eq_some_iff.1 ha).1
    rw [u.oth d (by omega)]; exact h.ifs d cs ha⟩
/-- what has turned is newer -/
theorem Cpl.bel {K : Cfg} {w0 w w' : World} (h : Cpl K w0 w) (x : RowKit.Below w0.heap.size w w') : Cpl K w0 w' :=
  ⟨x.os.trans h.os, x.tape.trans h.tape, x.output.trans h.output, Nat.le_trans h.size x.size, fun d hd ha => by rw [x.block d ha]; exact h.old d hd ha, fun d o' ha ho => by
    rw [x.block d (Array.getElem?_eq_some_iff.1 ha).1]; exact h.blk d o' ha ho, fun d cs ha => by
    rw [x.block d (Array.getElem?_eq_some_iff.1 ha).1]; exact h.ifs d cs ha⟩
theorem mok_ts {K : Cfg} {l b : Nat} (hl : 1 ≤ l) {ma : Option Addr} {mn mc' : Nat} {ea : Option Addr} {en ec : Nat} {ts : Value} : MOk K l b tIF (ifc ma mn mc' ea en ec (.pointer none)) (ifc ma mn mc' ea en ec ts) := ⟨rfl, fun i hi => by
  have h6 : i ≠ 6 := fun e => by
    subst e
    unfold mc at hi
    simp only [show ¬ tIF = tTY from by decide, if_false, if_true] at hi
    simp [nilP] at hi
    omega
  match i, h6 with
  | 0, _ | 1, _ | 2, _ | 3, _ | 4, _ | 5, _ => rfl
  | i + 7, _ => rfl⟩
/-- the type set is put into the interface -/
theorem Cpl.put {K : Cfg} {w w' : World} {b : Nat} {ma : Option Addr} {mn mc' : Nat} {ea : Option Addr} {en ec : Nat} {ts : Value} (hb : Has w b (.cells (ifc ma mn mc' ea en ec (.pointer none)) tIF)) (u : Upd w b (.cells (ifc ma mn mc' ea en ec ts) tIF) w') (hN : K.N ≤ b) : Cpl K w w' :=
  ⟨u.os, u.tape, u.output, Nat.le_of_eq u.size.symm, fun d hd _ => u.oth d (by omega), fun d o ha ho => by
    by_cases hdb : d = b
    · subst hdb
      have := hb.at_.symm.trans ha
      cases this
      exact absurd rfl (ho _)
    · rw [u.oth d hdb]; exact ha, fun d cs ha => by
    by_cases hdb : d = b
    · subst hdb
      have := hb.at_.symm.trans ha
      cases this
      exact ⟨_, u.has.at_, mok_ts (Nat.le_refl _)⟩
    · exact ⟨cs, by rw [u.oth d hdb]; exact ha, .rfl' ..⟩⟩
theorem IfN.same {w w' : World} {b : Nat} (h : IfN w b) (hs : ∀ cs, Has w b (.cells cs tIF (0, 0)) → w'.heap[b]? = w.heap[b]?) : IfN w' b := by
  obtain ⟨ma, mn, mc', ea, en, ec, h⟩ := h
  exact ⟨ma, mn, mc', ea, en, ec, ⟨(hs _ h).trans h.at_⟩⟩
theorem IfN.ext {w w' : World} {b : Nat} (x : Ext w w') (h : IfN w b) : IfN w' b := h.same fun _ k => x.below.block b k.lt
/-- a known interface's type set is there, or it is to be computed -/
def IfS (K : Cfg) (s : Gs) (w : World) (p : Nat → Prop) (c : Nat) (u : Ty) : Prop := TSv K s w p c u ∨ IfN w c
/-- keys -/
theorem pth_inj {p q : Int} (hp : p = 0 ∨ p = 1) (hq : q = 0 ∨ q = 1) (h : (pth p).toList = (pth q).toList) : p = q := by
  rcases hp with rfl | rfl <;> rcases hq with rfl | rfl <;> first
    | rfl
    | (exfalso
       unfold pth at h
       simp [Lib.toList_data] at h)
theorem idS_key {m m' : Mt} (hi : Ident m.name.toList) (hi' : Ident m'.name.toList) (hp : m.pkg = 0 ∨ m.pkg = 1) (hp' : m'.pkg = 0 ∨ m'.pkg = 1) : idS m.name.toList (pth m.pkg).toList = idS m'.name.toList (pth m'.pkg).toList ↔ keyM m = keyM m' := by
  constructor
  · intro h
    obtain ⟨h1, h2⟩ := idS_inj hi hi' (pth_nodot _) (pth_nodot _) h
    unfold keyM keyOf
    rw [← h1]
    rcases h2 with h2 | h2
    · rw [h2]; rfl
    · rw [pth_inj hp hp' h2]
  · intro h
    unfold keyM keyOf at h
    obtain ⟨h1, h2⟩ := Prod.ext_iff.1 h
    simp only at h1 h2
    unfold idS
    rw [← h1] at h2 ⊢
    cases he : expo m.name.toList
    · rw [he] at h2
      simp only [Bool.false_eq_true, if_false] at h2 ⊢
      rw [h2]
    · rfl
theorem cmpM_key {m m' : Mt} (h : keyM m = keyM m') : cmpM m m' = 0 := by
  unfold keyM keyOf at h
  obtain ⟨h1, h2⟩ := Prod.ext_iff.1 h
  simp only at h1 h2
  unfold cmpM
  rw [← h1] at h2 ⊢
  rw [cmpN_c3, c3_zero]
  refine ⟨rfl, .inr ⟨beq_self_eq_true _, ?_⟩⟩
  cases he : expo m.name.toList
  · rw [he] at h2
    simp only [Bool.false_eq_true, if_false] at h2
    right
    rw [h2]; exact compareBytes_self _
  · exact .inl rfl
theorem Srtd.nodup {ms : List Mt} (h : Srtd ms) : (ms.map keyM).Nodup := by
  rw [List.nodup_iff_pairwise_ne, List.pairwise_iff_getElem]
  intro i j hi hj hij he
  simp only [List.length_map] at hi hj
  simp only [List.getElem_map] at he
  have h1 := h i j ms[i] ms[j] hij (List.getElem?_eq_getElem hi) (List.getElem?_eq_getElem hj)
  rw [cmpM_key he] at h1
  omega
theorem PkOk.pkv {s : Gs} {w : World} (hp : PkgOK s w) {n : Int} {nm : ByteArray} {pk : Value} (hn : n = 0 ∨ n = 1) (h : PkOk s n nm pk) : PkV w nm pk (pth n) := by
  rcases h with rfl | ⟨rfl, h⟩
  · obtain ⟨c, x, h1, h2⟩ := hp n hn
    exact ⟨⟨_, h1⟩, fun _ => ⟨c, x, h1, h2, pth_ne n⟩⟩
  · exact ⟨⟨_, rfl⟩, fun he => by rw [h] at he; cases he⟩
theorem MthO.pkv {K : Cfg} {s : Gs} {w : World} {p : Nat → Prop} (hp : PkgOK s w) {m : Mt} {fb : Nat} (h : MthO K s w p m fb) : ∃ pk sv, FuncV w fb pk m.name sv ∧ PkV w m.name pk (pth m.pkg) := by
  obtain ⟨pk, sv, h1, _, h3, _, _, _, h7, _⟩ := h
  exact ⟨pk, sv, h3, h1.pkv hp h7⟩
/-- what an interface's block holds -/
structure IfD (K : Cfg) (s : Gs) (w : World) (p : Nat → Prop) (b : Nat) (t : Ty) (ma : Option Addr) (c mc' : Nat) (ea : Option Addr) (en ec : Nat) (fb : Nat → Nat) (me : Nat → Ty) (sv ev : Nat → Value) : Prop where
  k9 : (norm t).kind = 9
  cnt : (norm t).count = c
  len : c + en = (norm t).elems.length
  ib : IfB w b ma c mc' ea en ec
  pb : p b
  sg : ∀ i, i < c → RT K s w p (sv i) (me i)
  fn : ∀ i, i < c → ∃ pk, PkOk s (norm t).n (me i).name pk ∧ p (fb i) ∧ FuncV w (fb i) pk (me i).name (sv i)
  pm : ((List.range c).map me).Perm ((norm t).elems.take c)
  em : ∀ (i : Nat) e, (norm t).elems[c + i]? = some e → RT K s w p (ev i) e
  fr : RowQ w p tFN ma c fb
  er : RowT K w p ea en ev
theorem RT.ifd {K : Cfg} {s : Gs} {w : World} {p : Nat → Prop} {b : Nat} {t : Ty} (h : RT K s w p (.iface tPI (pt b)) t) (hi : isIf t) (he : ∀ T v, s.er = .iface T v → T ≠ tPI) (hc : t.kind = 9 → 0 ≤ t.count ∧ t.count ≤ t.elems.length) :
    ∃ ma c mc' ea en ec fb me sv ev, IfD K s w p b t ma c mc' ea en ec fb me sv ev := by
  generalize hv : (Value.iface tPI (pt b)) = v at h
  cases h with
  | basic _ b' i nb h0 h1 h2 => cases hv
  | error _ h0 h1 => exact absurd rfl (he _ _ hv.symm)
  | any _ b' h0 h1 hp h2 h3 =>
    cases hv
    have hn : norm t = anyT := by unfold norm; rw [if_pos h0, if_neg (by omega), if_neg (by omega), if_pos h1]
    exact ⟨none, 0, 0, none, 0, 0, fun _ => 0, fun _ => anyT, fun _ => .nilIface, fun _ => .nilIface, by rw [hn]; rfl, by rw [hn]; rfl, by rw [hn]; rfl, h2, hp, fun i hi => by omega, fun i hi => by omega, by rw [hn]; exact .refl _, fun i e he => by rw [hn] at he; simp [anyT, Ty.elems] at he, fun i hi => by omega, fun i hi => by omega⟩
  | named _ _ h0 => rcases hi with h | h <;> omega
  | ptr _ _ _ _ h0 => rcases hi with h | h <;> omega
  | slice _ _ _ _ h0 => rcases hi with h | h <;> omega
  | array _ _ _ _ h0 => rcases hi with h | h <;> omega
  | map _ _ _ _ _ _ h0 => rcases hi with h | h <;> omega
  | chan _ _ _ _ h0 => rcases hi with h | h <;> omega
  | struct _ _ _ _ _ _ _ _ _ h0 => rcases hi with h | h <;> omega
  | func _ _ _ _ _ _ h0 => rcases hi with h | h <;> omega
  | iface _ b' ma mc' ea ec fb me sv ev h0 h1 h2 h3 h4 hp h5 h6 h7 h8 =>
    cases hv
    have hn : norm t = t := norm_named (by omega)
    replace hc := hc h0
    refine ⟨ma, t.count.toNat, mc', ea, t.elems.length - t.count.toNat, ec, fb, me, sv, ev, by rw [hn]; exact h0, by rw [hn]; omega, by rw [hn]; omega, h5, hp, h1, by rw [hn]; exact h2, by rw [hn]; exact h3, by rw [hn]; exact h4, h6, h7⟩
end Go.Proofs.YtpiegpegjbmlkaaGreatDoor
namespace Go.Proofs.YtpiegpegjbmlkaaGreatDoor
open Go Go.Kd
set_option maxRecDepth 100000

theorem c_Basic_Underlying (b : Nat) (w : World) : Calls Tryz.prog 265 #[pt b] w (Ret fun r w' => r = .iface 109 (pt b) ∧ w = w') := by
  refine W.enter (args := [pt b]) Tryz.func265 rfl Tryz.ntmps265 rfl rfl ?_
  refine zst ?_
  exact fin1 (.inl rfl) rfl rfl ⟨rfl, rfl⟩
theorem c_Pointer_Underlying (b : Nat) (w : World) : Calls Tryz.prog 275 #[pt b] w (Ret fun r w' => r = .iface 128 (pt b) ∧ w = w') := by
  refine W.enter (args := [pt b]) Tryz.func275 rfl Tryz.ntmps275 rfl rfl ?_
  refine zst ?_
  exact fin1 (.inl rfl) rfl rfl ⟨rfl, rfl⟩
theorem c_Array_Underlying (b : Nat) (w : World) : Calls Tryz.prog 258 #[pt b] w (Ret fun r w' => r = .iface 94 (pt b) ∧ w = w') := by
  refine W.enter (args := [pt b]) Tryz.func258 rfl Tryz.ntmps258 rfl rfl ?_
  refine zst ?_
  exact fin1 (.inl rfl) rfl rfl ⟨rfl, rfl⟩
theorem c_Map_Underlying (b : Nat) (w : World) : Calls Tryz.prog 281 #[pt b] w (Ret fun r w' => r = .iface 189 (pt b) ∧ w = w') := by
  refine W.enter (args := [pt b]) Tryz.func281 rfl Tryz.ntmps281 rfl rfl ?_
  refine zst ?_
  exact fin1 (.inl rfl) rfl rfl ⟨rfl, rfl⟩
theorem c_Chan_Underlying (b : Nat) (w : World) : Calls Tryz.prog 283 #[pt b] w (Ret fun r w' => r = .iface 191 (pt b) ∧ w = w') := by
  refine W.enter (args := [pt b]) Tryz.func283 rfl Tryz.ntmps283 rfl rfl ?_
  refine zst ?_
  exact fin1 (.inl rfl) rfl rfl ⟨rfl, rfl⟩
theorem c_Struct_Underlying (b : Nat) (w : World) : Calls Tryz.prog 255 #[pt b] w (Ret fun r w' => r = .iface 75 (pt b) ∧ w = w') := by
  refine W.enter (args := [pt b]) Tryz.func255 rfl Tryz.ntmps255 rfl rfl ?_
  refine zst ?_
  exact fin1 (.inl rfl) rfl rfl ⟨rfl, rfl⟩
theorem c_Signature_Underlying (b : Nat) (w : World) : Calls Tryz.prog 276 #[pt b] w (Ret fun r w' => r = .iface 134 (pt b) ∧ w = w') := by
  refine W.enter (args := [pt b]) Tryz.func276 rfl Tryz.ntmps276 rfl rfl ?_
  refine zst ?_
  exact fin1 (.inl rfl) rfl rfl ⟨rfl, rfl⟩
theorem c_Interface_Underlying (b : Nat) (w : World) : Calls Tryz.prog 263 #[pt b] w (Ret fun r w' => r = .iface 108 (pt b) ∧ w = w') := by
  refine W.enter (args := [pt b]) Tryz.func263 rfl Tryz.ntmps263 rfl rfl ?_
  refine zst ?_
  exact fin1 (.inl rfl) rfl rfl ⟨rfl, rfl⟩
theorem Stp.imp {P : Program} {e : Env} {o : Oper} {w : World} {R R' : Value → World → Prop} (h : Stp P e o w R) (hr : ∀ v w', R v w' → R' v w') : Stp P e o w R' := ⟨fun ρ hρ => by
  have := h.out ρ hρ
  split at this
  · exact hr _ _ this
  · exact hr _ _ this
  · exact this.mono fun x w'' ⟨v, h1, h2⟩ => ⟨v, h1, hr v w'' h2⟩
  · exact this⟩
/-- the types of literals and of predeclared types -/
def litT (T : Nat) : Prop := T = 109 ∨ T = 128 ∨ T = 107 ∨ T = 94 ∨ T = 189 ∨ T = 191 ∨ T = 75 ∨ T = 134 ∨ T = 108
section
variable {e : Env} {w : World} {d : Option Tmp} {ty : TypeId} {pos : String} {aft : Array Edge} {g : Option (Nat × Bool)} {recv : Operand} {tys : Array TypeId}
theorem stp_und_lit {T b : Nat} (hT : litT T) (hr : ev e recv = some (.iface T (pt b))) : Stp Tryz.prog e ⟨d, .call ⟨.invoke recv "Underlying", #[], tys⟩, ty, pos, aft, g⟩ w (fun r w' => r = .iface T (pt b) ∧ w = w') := by
  rcases hT with rfl | rfl | rfl | rfl | rfl | rfl | rfl | rfl | rfl
  · exact stp_invoke (args := []) (vs := []) hr rfl (c_Basic_Underlying b w)
  · exact stp_invoke (args := []) (vs := []) hr rfl (c_Pointer_Underlying b w)
  · exact stp_invoke (args := []) (vs := []) hr rfl (c_Slice_Underlying b w)
  · exact stp_invoke (args := []) (vs := []) hr rfl (c_Array_Underlying b w)
  · exact stp_invoke (args := []) (vs := []) hr rfl (c_Map_Underlying b w)
  · exact stp_invoke (args := []) (vs := []) hr rfl (c_Chan_Underlying b w)
  · exact stp_invoke (args := []) (vs := []) hr rfl (c_Struct_Underlying b w)
  · exact stp_invoke (args := []) (vs := []) hr rfl (c_Signature_Underlying b w)
  · exact stp_invoke (args := []) (vs := []) hr rfl (c_Interface_Underlying b w)
theorem stp_und_named {b T ub : Nat} {obj ms : Value} (h : NamV w b obj (.iface T (pt ub)) ms) (hr : ev e recv = some (.iface tNP (pt b))) : Stp Tryz.prog e ⟨d, .call ⟨.invoke recv "Underlying", #[], tys⟩, ty, pos, aft, g⟩ w (fun r w' => r = .iface T (pt ub) ∧ w = w') :=
  stp_invoke (args := []) (vs := []) hr rfl (c_Named_Underlying b T ub obj ms w h)
end
theorem litT.ne {T : Nat} (h : litT T) : Nat.beq T tAL = false ∧ Nat.beq T tNP = false ∧ Nat.beq T 112 = false ∧ Nat.beq T 113 = false := by
  rcases h with rfl | rfl | rfl | rfl | rfl | rfl | rfl | rfl | rfl <;> exact ⟨rfl, rfl, rfl, rfl⟩
/-- the dynamic type of a literal -/
def dynT (t : Ty) : Nat := if t.kind = 0 then (if t.n = 21 then tPI else 109) else if t.kind = 2 then 128 else if t.kind = 3 then 107 else if t.kind = 4 then 94 else if t.kind = 5 then 189 else if t.kind = 6 then 191
  else if t.kind = 7 then 75 else if t.kind = 8 then 134 else tPI
theorem dynT_lit (t : Ty) : litT (dynT t) := by
  unfold dynT
  repeat' split
  all_goals (unfold litT; decide)
/-- no declared type -/
def isLit (t : Ty) : Prop := t.kind ≠ 1 ∧ ¬ (t.kind = 0 ∧ t.n = 20)
theorem RT.lit {K : Cfg} {s : Gs} {w : World} {p : Nat → Prop} {v : Value} {t : Ty} (h : RT K s w p v t) (hl : isLit t) : ∃ b, v = .iface (dynT t) (pt b) ∧ p b ∧ s.g b = some t := by
  obtain ⟨l1, l2⟩ := hl
  cases h with
  | basic _ b i nb h0 h1 h2 hp h3 h4 => exact ⟨b, by unfold dynT; rw [if_pos h0, if_neg (by omega)], hp, h4⟩
  | error _ h0 h1 => exact absurd ⟨h0, h1⟩ l2
  | any _ b h0 h1 hp h2 h3 => exact ⟨b, by unfold dynT; rw [if_pos h0, if_pos h1], hp, h3⟩
  | named _ _ h0 => exact absurd h0 l1
  | ptr _ e v b h0 h1 _ hp h3 h4 => exact ⟨b, by unfold dynT; simp [h0], hp, h4⟩
  | slice _ e v b h0 h1 _ hp h3 h4 => exact ⟨b, by unfold dynT; simp [h0], hp, h4⟩
  | array _ e v b h0 h1 _ hp h3 h4 => exact ⟨b, by unfold dynT; simp [h0], hp, h4⟩
  | map _ k e u v b h0 h1 _ _ hp h3 h4 => exact ⟨b, by unfold dynT; simp [h0], hp, h4⟩
  | chan _ e v b h0 h1 _ hp h3 h4 => exact ⟨b, by unfold dynT; simp [h0], hp, h4⟩
  | struct _ b fa fc ta tc vb vv tg h0 _ h2 hp h3 h4 h5 h6 => exact ⟨b, by unfold dynT; simp [h0], hp, h6⟩
  | func _ b ps rs vb vv h0 _ h2 hp h3 h4 h5 h6 => exact ⟨b, by unfold dynT; simp [h0], hp, h6⟩
  | iface _ b ma mc ea ec fb me sv ev h0 _ h2 h3 _ hp h5 h6 h7 h8 => exact ⟨b, by unfold dynT; simp [h0], hp, h8⟩
theorem RT.nam {K : Cfg} {s : Gs} {w : World} {p : Nat → Prop} {v : Value} {t : Ty} (h : RT K s w p v t) (hk : t.kind = 1) : s.nm t.n.toNat = some v := by
  cases h <;> first
    | omega
    | assumption
theorem RT.err {K : Cfg} {s : Gs} {w : World} {p : Nat → Prop} {v : Value} {t : Ty} (h : RT K s w p v t) (hk : t.kind = 0) (hn : t.n = 20) : v = s.er := by
  cases h <;> first
    | omega
    | rfl

/-- a declared type's value, as far as it is made -/
inductive DclV (K : Cfg) (s : Gs) (w : World) (n : Nat) (e : De) : Bool → Prop
  | def0 (b ob : Nat) : e.al = false → s.nm n = some (.iface tNP (pt b)) → s.g b = some (tN n) → TnV w ob (s.pk e.pkg) e.name (.iface tNP (pt b)) → Has w b (.cells (nmc (pt ob) true 0 0 .nilIface .nilIface (.slice none 0 0)) tNM) → DclV K s w n e false
  | def1 (b ob : Nat) (u ms : Value) (y : Ty) : e.al = false → s.nm n = some (.iface tNP (pt b)) → s.g b = some (tN n) → TnV w ob (s.pk e.pkg) e.name (.iface tNP (pt b)) → NamV w b (pt ob) u ms → RT K s w s.sl u y → isLit y → underT K.D (tN n) = norm y → DclV K s w n e true
  | al0 : e.al = true → DclV K s w n e false
  | al1 (b ob : Nat) (v v1 : Value) (y : Ty) : e.al = true → s.nm n = some (.iface tAL (pt b)) → TnV w ob (s.pk e.pkg) e.name (.iface tAL (pt b)) → Has w b (.cells #[pt ob, pt b, v, v1] tAB) → RT K s w s.sl v e.ty → IsI v → RT K s w s.sl v1 y → IsI v1 → isAl K.D y = false → unaliasT K.D (tN n) = norm y →
      (y.kind = 1 → 0 ≤ y.n ∧ y.n < n) → DclV K s w n e true
/-- the first i declarations are made -/
def DclI (K : Cfg) (s : Gs) (w : World) (i : Nat) : Prop := ∀ (n : Nat) e, K.D[n]? = some e → DclV K s w n e (decide (n < i))
/-- error -/
def ErrI (K : Cfg) (s : Gs) (w : World) : Prop := ∃ b ob u ms nm, s.er = .iface tNP (pt b) ∧ s.g b = some errB ∧ TnV w ob (.pointer none) nm s.er ∧ NamV w b (pt ob) u ms ∧ RT K s w s.sl u errT
theorem NamV.sta {K : Cfg} {l : Nat} {w w' : World} (x : Sta K l w w') {b ob T ub : Nat} {ms : Value} (h : NamV w b (pt ob) (.iface T (pt ub)) ms) : ∃ ms', NamV w' b (pt ob) (.iface T (pt ub)) ms' := by
  obtain ⟨cs', k1, k2⟩ := x.has (by decide) h
  have hs : cs'.size = 10 := k2.size
  have hc : ∀ i, i ≠ 9 → cs'[i]? = (nmc (pt ob) false 0 15 (.iface T (pt ub)) (.iface T (pt ub)) ms)[i]? := fun i hi => k2.cell i (by
    unfold mc
    simp only [show ¬ tNM = tTY from by decide, show ¬ tNM = tIF from by decide, show ¬ tNM = tSG from by decide, if_false, if_true]
    simp [nilI, hi])
  refine ⟨cs'[9], ?_⟩
  have : cs' = nmc (pt ob) false 0 15 (.iface T (pt ub)) (.iface T (pt ub)) cs'[9] := by
    apply Array.ext_getElem?
    intro i
    by_cases hi : i = 9
    · subst hi; simp [hs]
    · rw [hc i hi]
      match i, hi with
      | 0, _ | 1, _ | 2, _ | 3, _ | 4, _ | 5, _ | 6, _ | 7, _ | 8, _ => rfl
      | i + 10, _ => rw [Array.getElem?_eq_none (by simp), Array.getElem?_eq_none (by simp)]
  unfold NamV
  rw [← this]; exact k1
theorem TnV.sta {K : Cfg} {l : Nat} {w w' : World} (x : Sta K l w w') {ob T : Nat} {pk v : Value} {nm : ByteArray} (h : TnV w ob pk nm (.iface T v)) : TnV w' ob pk nm (.iface T v) := by
  obtain ⟨cs', k1, k2⟩ := x.has (by decide) h
  have hc : ∀ i, cs'[i]? = (#[Value.int .i64 0, pk, .string nm, .iface T v] : Array Value)[i]? := fun i => k2.cell i (by
    unfold mc
    simp only [show ¬ tTN = tTY from by decide, show ¬ tTN = tIF from by decide, show ¬ tTN = tSG from by decide, show ¬ tTN = tNM from by decide, if_false, if_true]
    by_cases hi : i = 3
    · subst hi; simp [nilI]
    · simp [hi])
  have : cs' = #[Value.int .i64 0, pk, .string nm, .iface T v] := Array.ext_getElem? hc
  unfold TnV
  rw [← this]; exact k1
theorem RT.isI {K : Cfg} {s : Gs} {w : World} {p : Nat → Prop} {v : Value} {t : Ty} (h : RT K s w p v t) (hl : isLit t) : IsI v := by
  obtain ⟨b, h1, _⟩ := h.lit hl
  exact ⟨_, b, h1⟩
theorem DclV.sta1 {K : Cfg} {l : Nat} {s : Gs} {w w' : World} (x : Sta K l w w') (hl : l ≤ 3) {n : Nat} {e : De} (h : DclV K s w n e true) : DclV K s w' n e true := by
  cases h with
  | def1 b ob u ms y h1 h2 h3 h4 h5 h6 h7 h8 =>
    obtain ⟨T, ub, rfl⟩ := h6.isI h7
    obtain ⟨ms', h5'⟩ := h5.sta x
    exact .def1 b ob _ ms' y h1 h2 h3 (h4.sta x) h5' (h6.sta x hl) h7 h8
  | al1 b ob v v1 y h1 h2 h3 h4 h5 h6 h7 h8 h9 h10 h11 => exact .al1 b ob v v1 y h1 h2 (h3.sta x) (Has.sta x h4) (h5.sta x hl) h6 (h7.sta x hl) h8 h9 h10 h11
theorem DclI.sta {K : Cfg} {l : Nat} {s : Gs} {w w' : World} (x : Sta K l w w') (hl : l ≤ 3) (h : DclI K s w K.D.length) : DclI K s w' K.D.length := fun n e he => by
  have := h n e he
  rw [decide_eq_true (List.getElem?_eq_some_iff.1 he).1] at this ⊢
  exact this.sta1 x hl
theorem isLit_errT : isLit errT := ⟨by decide, by decide⟩
theorem ErrI.sta {K : Cfg} {l : Nat} {s : Gs} {w w' : World} (x : Sta K l w w') (hl : l ≤ 3) (h : ErrI K s w) : ErrI K s w' := by
  obtain ⟨b, ob, u, ms, nm, h1, h2, h3, h4, h5⟩ := h
  obtain ⟨T, ub, rfl⟩ := h5.isI isLit_errT
  obtain ⟨ms', h4'⟩ := h4.sta x
  rw [h1] at h3
  exact ⟨b, ob, _, ms', nm, h1, h2, by rw [h1]; exact h3.sta x, h4', h5.sta x hl⟩
/-- more is known of the blocks -/
theorem DclV.gle {K : Cfg} {s s' : Gs} {w : World} (l : s.gle s') {n : Nat} {e : De} {d : Bool} (h : DclV K s w n e d) : DclV K s' w n e d := by
  have mv : ∀ {v : Value} {t : Ty}, RT K s w s.sl v t → RT K s' w s'.sl v t := fun h => (h.le l.le).mono fun d _ hd => l.sl d hd
  cases h with
  | def0 b ob h1 h2 h3 h4 h5 => exact .def0 b ob h1 (by rw [l.nm]; exact h2) (l.g _ _ h3) (by rw [l.pk]; exact h4) h5
  | def1 b ob u ms y h1 h2 h3 h4 h5 h6 h7 h8 => exact .def1 b ob u ms y h1 (by rw [l.nm]; exact h2) (l.g _ _ h3) (by rw [l.pk]; exact h4) h5 (mv h6) h7 h8
  | al0 h1 => exact .al0 h1
  | al1 b ob v v1 y h1 h2 h3 h4 h5 h6 h7 h8 h9 h10 h11 => exact .al1 b ob v v1 y h1 (by rw [l.nm]; exact h2) (by rw [l.pk]; exact h3) h4 (mv h5) h6 (mv h7) h8 h9 h10 h11
theorem DclI.gle {K : Cfg} {s s' : Gs} {w : World} (l : s.gle s') {i : Nat} (h : DclI K s w i) : DclI K s' w i := fun n e he => (h n e he).gle l
theorem ErrI.gle {K : Cfg} {s s' : Gs} {w : World} (l : s.gle s') (h : ErrI K s w) : ErrI K s' w := by
  obtain ⟨b, ob, u, ms, nm, h1, h2, h3, h4, h5⟩ := h
  exact ⟨b, ob, u, ms, nm, by rw [l.er]; exact h1, l.g _ _ h2, by rw [l.er]; exact h3, h4, (h5.le l.le).mono fun d _ hd => l.sl d hd⟩

/-! ### Unalias -/
theorem c_unalias_done (b T c : Nat) (ob og v : Value) (w : World) (h : Has w b (.cells #[ob, og, v, .iface T (pt c)] tAB)) : Calls Tryz.prog 146 #[pt b] w (Ret fun r w' => r = .iface T (pt c) ∧ w = w') := by
  refine W.enter (args := [pt b]) Tryz.func146 rfl Tryz.ntmps146 rfl rfl ?_
  refine zst ?_
  exact fin1 (.inl rfl) rfl rfl ⟨rfl, rfl⟩
theorem c_Unalias_yes (b T c : Nat) (ob og v : Value) (w : World) (h : Has w b (.cells #[ob, og, v, .iface T (pt c)] tAB)) : Calls Tryz.prog 102 #[.iface tAL (pt b)] w (Ret fun r w' => r = .iface T (pt c) ∧ w = w') := by
  refine W.enter (args := [.iface tAL (pt b)]) Tryz.func102 rfl Tryz.ntmps102 rfl rfl ?_
  refine zst ?_
  refine WU.stp rfl rfl rfl (stp_call rfl (c_unalias_done b T c ob og v w h)) ?_
  rintro _ _ ⟨rfl, rfl⟩
  refine zst ?_
  exact fin1 (.inl rfl) rfl rfl ⟨rfl, rfl⟩
theorem c_Alias_Underlying_lit (b T c : Nat) (ob og v : Value) (w : World) (h : Has w b (.cells #[ob, og, v, .iface T (pt c)] tAB)) (hT : litT T) : Calls Tryz.prog 273 #[pt b] w (Ret fun r w' => r = .iface T (pt c) ∧ w = w') := by
  refine W.enter (args := [pt b]) Tryz.func273 rfl Tryz.ntmps273 rfl rfl ?_
  refine zst ?_
  refine WU.stp rfl rfl rfl (stp_call rfl (c_unalias_done b T c ob og v w h)) ?_
  rintro _ _ ⟨rfl, rfl⟩
  refine WU.stp rfl rfl rfl (stp_und_lit hT rfl) ?_
  rintro _ _ ⟨rfl, rfl⟩
  refine zst ?_
  exact fin1 (.inl rfl) rfl rfl ⟨rfl, rfl⟩
theorem c_Alias_Underlying_named (b c T ub : Nat) (ob og v obj ms : Value) (w : World) (h : Has w b (.cells #[ob, og, v, .iface tNP (pt c)] tAB)) (hn : NamV w c obj (.iface T (pt ub)) ms) : Calls Tryz.prog 273 #[pt b] w (Ret fun r w' => r = .iface T (pt ub) ∧ w = w') := by
  refine W.enter (args := [pt b]) Tryz.func273 rfl Tryz.ntmps273 rfl rfl ?_
  refine zst ?_
  refine WU.stp rfl rfl rfl (stp_call rfl (c_unalias_done b tNP c ob og v w h)) ?_
  rintro _ _ ⟨rfl, rfl⟩
  refine WU.stp rfl rfl rfl (stp_und_named hn rfl) ?_
  rintro _ _ ⟨rfl, rfl⟩
  refine zst ?_
  exact fin1 (.inl rfl) rfl rfl ⟨rfl, rfl⟩

/-! ### In general -/
/-- t refers to what is made already -/
def Rdy (K : Cfg) (i : Nat) (t : Ty) : Prop := t.kind = 1 → 0 ≤ t.n ∧ t.n.toNat < K.D.length ∧ t.n.toNat < i
theorem under_tN {D : List De} (hD : ShapedD D) {t : Ty} {n : Nat} {e : De} (hk : t.kind = 1) (hn : t.n.toNat = n) (he : D[n]? = some e) : underT D t = underT D (tN n) := by
  rw [under_step hD hk (by rw [hn]; exact he), under_step hD (tN_kind n) (by rw [tN_n, Int.toNat_natCast]; exact he)]
/-- a defined type that is made -/
theorem DclI.def_ {K : Cfg} {s : Gs} {w : World} {i n : Nat} (h : DclI K s w i) {e : De} (he : K.D[n]? = some e) (hi : n < i) (ha : e.al = false) {v : Value} (hv : s.nm n = some v) :
    ∃ b ob T ub ms y, v = .iface tNP (pt b) ∧ s.g b = some (tN n) ∧ TnV w ob (s.pk e.pkg) e.name (.iface tNP (pt b)) ∧ NamV w b (pt ob) (.iface T (pt ub)) ms ∧ RT K s w s.sl (.iface T (pt ub)) y ∧ isLit y ∧ underT K.D (tN n) = norm y := by
  have := h n e he
  rw [decide_eq_true hi] at this
  cases this with
  | def1 b ob u ms y h1 h2 h3 h4 h5 h6 h7 h8 =>
    obtain ⟨T, ub, rfl⟩ := h6.isI h7
    rw [h2] at hv
    cases hv
    exact ⟨b, ob, T, ub, ms, y, rfl, h3, h4, h5, h6, h7, h8⟩
  | al1 b ob v v1 y h1 => rw [h1] at ha; cases ha
theorem DclI.al_ {K : Cfg} {s : Gs} {w : World} {i n : Nat} (h : DclI K s w i) {e : De} (he : K.D[n]? = some e) (hi : n < i) (ha : e.al = true) {v : Value} (hv : s.nm n = some v) :
    ∃ b ob T c v0 y, v = .iface tAL (pt b) ∧ TnV w ob (s.pk e.pkg) e.name (.iface tAL (pt b)) ∧ Has w b (.cells #[pt ob, pt b, v0, .iface T (pt c)] tAB) ∧ RT K s w s.sl v0 e.ty ∧ RT K s w s.sl (.iface T (pt c)) y ∧ isAl K.D y = false ∧ unaliasT K.D (tN n) = norm y ∧ (y.kind = 1 → 0 ≤ y.n ∧ y.n < n) := by
  have := h n e he
  rw [decide_eq_true hi] at this
  cases this with
  | def1 b ob u ms y h1 => rw [h1] at ha; cases ha
  | al1 b ob v v1 y h1 h2 h3 h4 h5 h6 h7 h8 h9 h10 h11 =>
    obtain ⟨T, c, rfl⟩ := h8
    rw [h2] at hv
    cases hv
    exact ⟨b, ob, T, c, v, y, rfl, h3, h4, h5, h7, h9, h10, h11⟩
section
variable {e : Env} {w : World} {d : Option Tmp} {ty : TypeId} {pos : String} {aft : Array Edge} {g : Option (Nat × Bool)} {recv : Operand} {tys : Array TypeId}
/-- Underlying: a literal that underlies the type -/
theorem stp_und {K : Cfg} {s : Gs} {i : Nat} {p : Nat → Prop} {v : Value} {t : Ty} (hD : ShapedD K.D) (hd : DclI K s w i) (he : ErrI K s w) (h : RT K s w p v t) (hi : Rdy K i t) (hr : ev e recv = some v) :
    Stp Tryz.prog e ⟨d, .call ⟨.invoke recv "Underlying", #[], tys⟩, ty, pos, aft, g⟩ w (fun r w' => w = w' ∧ ∃ y, RT K s w (fun d => p d ∨ s.sl d) r y ∧ isLit y ∧ underT K.D t = norm y ∧ IsI r) := by
  by_cases hk : t.kind = 1
  · obtain ⟨h0, h1, h2⟩ := hi hk
    have hel := List.getElem?_eq_getElem h1
    have hnm := h.nam hk
    cases ha : (K.D[t.n.toNat]).al
    · obtain ⟨b, ob, T, ub, ms, y, rfl, k1, k2, k3, k4, k5, k6⟩ := hd.def_ hel h2 ha hnm
      refine Stp.imp (stp_und_named k3 hr) fun r w' ⟨e1, e2⟩ => ⟨e2, y, ?_, k5, by rw [under_tN hD hk rfl hel]; exact k6, ?_⟩
      · rw [e1]; exact k4.mono fun d _ hd => .inr hd
      · rw [e1]; exact ⟨_, _, rfl⟩
    · obtain ⟨b, ob, T, c, v0, y, rfl, k1, k2, k3, k4, k5, k6, k7⟩ := hd.al_ hel h2 ha hnm
      have hu : underT K.D t = underT K.D y := by
        rw [under_tN hD hk rfl hel]
        exact under_of_unalias (by rw [k6, unalias_end k5])
      by_cases hy : y.kind = 1
      · obtain ⟨q0, q1⟩ := k7 hy
        have hlt : y.n.toNat < K.D.length := by omega
        have hel2 := List.getElem?_eq_getElem hlt
        have hal2 : (K.D[y.n.toNat]).al = false := by rw [← isAl_n hy hel2]; exact k5
        obtain ⟨b2, ob2, T2, ub2, ms2, y2, e1, m1, m2, m3, m4, m5, m6⟩ := hd.def_ hel2 (by omega) hal2 (k4.nam hy)
        cases e1
        refine Stp.imp (stp_invoke (args := []) (vs := []) hr rfl (c_Alias_Underlying_named b c T2 ub2 _ _ _ _ _ w k2 m3)) fun r w' ⟨e1, e2⟩ => ⟨e2, y2, ?_, m5, by rw [hu, under_tN hD hy rfl hel2]; exact m6, ?_⟩
        · rw [e1]; exact m4.mono fun d _ hd => .inr hd
        · rw [e1]; exact ⟨_, _, rfl⟩
      · by_cases hye : y.kind = 0 ∧ y.n = 20
        · obtain ⟨b2, ob2, u, ms, nm, q1, q2, q3, q4, q5⟩ := he
          have hv := k4.err hye.1 hye.2
          rw [q1] at hv
          cases hv
          obtain ⟨T2, ub2, rfl⟩ := q5.isI isLit_errT
          refine Stp.imp (stp_invoke (args := []) (vs := []) hr rfl (c_Alias_Underlying_named b c T2 ub2 _ _ _ _ _ w k2 q4)) fun r w' ⟨e1, e2⟩ => ⟨e2, errT, ?_, isLit_errT, by rw [hu, under_err hye.1 hye.2, under_norm_err], ?_⟩
          · rw [e1]; exact q5.mono fun d _ hd => .inr hd
          · rw [e1]; exact ⟨_, _, rfl⟩
        · obtain ⟨b2, e1, m1, m2⟩ := k4.lit ⟨hy, hye⟩
          cases e1
          refine Stp.imp (stp_invoke (args := []) (vs := []) hr rfl (c_Alias_Underlying_lit b _ c _ _ _ w k2 (dynT_lit y))) fun r w' ⟨e1, e2⟩ => ⟨e2, y, ?_, ⟨hy, hye⟩, by rw [hu, under_lit hy hye], ?_⟩
          · rw [e1]; exact k4.mono fun d _ hd => .inr hd
          · rw [e1]; exact ⟨_, _, rfl⟩
  · by_cases hye : t.kind = 0 ∧ t.n = 20
    · obtain ⟨b2, ob2, u, ms, nm, q1, q2, q3, q4, q5⟩ := he
      have hv := h.err hye.1 hye.2
      rw [q1] at hv
      subst hv
      obtain ⟨T2, ub2, rfl⟩ := q5.isI isLit_errT
      refine Stp.imp (stp_und_named q4 hr) fun r w' ⟨e1, e2⟩ => ⟨e2, errT, ?_, isLit_errT, by rw [under_err hye.1 hye.2, under_norm_err], ?_⟩
      · rw [e1]; exact q5.mono fun d _ hd => .inr hd
      · rw [e1]; exact ⟨_, _, rfl⟩
    · obtain ⟨b2, rfl, m1, m2⟩ := h.lit ⟨hk, hye⟩
      refine Stp.imp (stp_und_lit (dynT_lit t) hr) fun r w' ⟨e1, e2⟩ => ⟨e2, t, ?_, ⟨hk, hye⟩, under_lit hk hye, ?_⟩
      · rw [e1]; exact h.mono fun d _ hd => .inl hd
      · rw [e1]; exact ⟨_, _, rfl⟩
end
/-- Unalias -/
theorem c_gUnalias {K : Cfg} {s : Gs} {w : World} {i : Nat} {p : Nat → Prop} {v : Value} {t : Ty} (hD : ShapedD K.D) (hd : DclI K s w i) (he : ErrI K s w) (h : RT K s w p v t) (hi : Rdy K i t) :
    Calls Tryz.prog 102 #[v] w (Ret fun r w' => w = w' ∧ ∃ y, RT K s w (fun d => p d ∨ s.sl d) r y ∧ isAl K.D y = false ∧ unaliasT K.D t = norm y ∧ IsI r ∧ Rdy K i y) := by
  have no : ∀ (T b : Nat), v = .iface T (pt b) → Nat.beq T tAL = false → isAl K.D t = false → Calls Tryz.prog 102 #[v] w (Ret fun r w' => w = w' ∧ ∃ y, RT K s w (fun d => p d ∨ s.sl d) r y ∧ isAl K.D y = false ∧ unaliasT K.D t = norm y ∧ IsI r ∧ Rdy K i y) := fun T b hv hT ha => by
    subst hv
    exact (c_Unalias_no T _ w hT).mono fun e w' ⟨r, h1, h2, h3⟩ => ⟨r, h1, h3, t, by rw [h2]; exact h.mono fun d _ hd => .inl hd, ha, unalias_end ha, by rw [h2]; exact ⟨_, _, rfl⟩, hi⟩
  by_cases hk : t.kind = 1
  · obtain ⟨h0, h1, h2⟩ := hi hk
    have hel := List.getElem?_eq_getElem h1
    have hnm := h.nam hk
    cases ha : (K.D[t.n.toNat]).al
    · obtain ⟨b, ob, T, ub, ms, y, hv, k1, k2, k3, k4, k5, k6⟩ := hd.def_ hel h2 ha hnm
      exact no _ _ hv rfl (by rw [isAl_n hk hel]; exact ha)
    · obtain ⟨b, ob, T, c, v0, y, rfl, k1, k2, k3, k4, k5, k6, k7⟩ := hd.al_ hel h2 ha hnm
      exact (c_Unalias_yes b T c _ _ _ w k2).mono fun e w' ⟨r, e0, e1, e2⟩ => ⟨r, e0, e2, y, by rw [e1]; exact k4.mono fun d _ hd => .inr hd, k5, by rw [unalias_step hD hk hel ha, ← k6, unalias_step hD (tN_kind _) (by rw [tN_n, Int.toNat_natCast]; exact hel) ha], by rw [e1]; exact ⟨_, _, rfl⟩, fun hy => by
        obtain ⟨q0, q1⟩ := k7 hy
        exact ⟨q0, by omega, by omega⟩⟩
  · have ha := isAl_lit (D := K.D) hk
    by_cases hye : t.kind = 0 ∧ t.n = 20
    · obtain ⟨b2, ob2, u, ms, nm, q1, q2, q3, q4, q5⟩ := he
      have hv := h.err hye.1 hye.2
      rw [q1] at hv
      exact no _ _ hv rfl ha
    · obtain ⟨b2, hv, m1, m2⟩ := h.lit ⟨hk, hye⟩
      exact no _ _ hv (dynT_lit t).ne.1 ha
end Go.Proofs.YtpiegpegjbmlkaaGreatDoor
namespace Go.Kd
/-- at a round of a loop -/
structure WLp (P : Program) (n : Nat) (c : Code) (Q : Post) (D : List Deferred) (e : Env) (w : World) : Prop where
  out : ∀ a, Fr n D e a → ∀ b k cs, ∃ x a' w', post n Q x a' w' ∧ Arrives P (lone (b.at a (.code c :: .inLoop c :: k)) cs w) b k cs x a' w'
section
variable {P : Program} {n : Nat} {Q : Post} {D : List Deferred} {e : Env} {w : World}
theorem W.loop1 {c : Code} (h : WLp P n c Q D e w) : W P n (.loop c) Q D e w := ⟨fun a ha b k cs => by
  obtain ⟨x, a', w', hq, harr⟩ := h.out a ha b k cs
  exact ⟨x, a', w', hq, .of_steps (.one step_loop) harr⟩⟩
/-- one round -/
theorem WLp.next {c : Code} (h : W P n c (thn (WLp P n c Q) Q) D e w) : WLp P n c Q D e w := ⟨fun a ha b k cs => by
  obtain ⟨x, a1, w1, hq, harr⟩ := h.out a ha b (.inLoop c :: k) cs
  cases x with
  | normal =>
    obtain ⟨D1, e1, hf1, h2⟩ := hq
    obtain ⟨x2, a2, w2, hq2, harr2⟩ := h2.out a1 hf1 b k cs
    exact ⟨x2, a2, w2, hq2, .of_steps (Steps.trans harr (.one step_inLoop)) harr2⟩
  | exit id => exact ⟨_, a1, w1, lift_exit hq, .pass (x := .inLoop c) rfl (fun _ _ => .inl (by simp)) harr⟩
  | goto l => exact ⟨_, a1, w1, lift_goto hq, .pass (x := .inLoop c) rfl (fun _ _ => .inl (by simp)) harr⟩
  | ret => exact ⟨_, a1, w1, lift_ret hq, .pass (x := .inLoop c) rfl (fun _ _ => .inl (by simp)) harr⟩
  | panic ch => exact hq.elim
  | outgrown => exact hq.elim⟩
end
end Go.Kd
namespace Go.Proofs.YtpiegpegjbmlkaaGreatDoor
open Go Go.Kd
set_option maxRecDepth 100000

theorem c_assert (w : World) : Calls Tryz.prog 69 #[.bool true] w (Ret fun _ w' => w = w') := by
  refine W.enter (args := [.bool true]) Tryz.func69 rfl Tryz.ntmps69 rfl rfl ?_
  refine zst ?_
  exact fin0 (.inr rfl) rfl rfl
theorem AllT.open {w : World} {v : Value} (h : AllT w v) : ∃ g c tb cs, v = .slice (some ⟨g, 0, none⟩) 1 c ∧ w.cell? ⟨g, 0, none⟩ = some (pt tb) ∧ Has w g (.cells cs tTP) ∧ Has w tb (.cells #[.bool false, .nilIface] tTM) := by
  obtain ⟨a, c, tb, h1, h2, h3⟩ := h
  obtain ⟨g, cs, rfl, k1, k2⟩ := h2 0 (by omega)
  exact ⟨g, c, tb, cs, h1, cell_of k1 k2, k1, h3⟩
theorem c_isEmpty (v : Value) (w : World) (h : AllT w v) : Calls Tryz.prog 190 #[v] w (Ret fun r w' => r = .bool false ∧ w = w') := by
  obtain ⟨g, c, tb, cs, rfl, h1, _, h2⟩ := h.open
  refine W.enter (args := [.slice (some ⟨g, 0, none⟩) 1 c]) Tryz.func190 rfl Tryz.ntmps190 rfl rfl ?_
  refine zst ?_
  refine W.loop1 (WLp.next ?_)
  refine zst ?_
  rw [show decide ((0 : Int) < ((1 : Nat) : Int)) = true from rfl]
  refine zst ?_
  refine WU.yld rfl rfl rfl (yld_load_c rfl h1) ?_
  refine zst ?_
  exact fin1 (.inl rfl) rfl rfl ⟨rfl, rfl⟩
theorem c_tintersect (b b' : Nat) (w : World) (h : Has w b (.cells #[.bool false, .nilIface] tTM)) :
    Calls Tryz.prog 192 #[pt b, pt b'] w (Ret fun r w' => r = pt b' ∧ w = w') := by
  refine W.enter (args := [pt b, pt b']) Tryz.func192 rfl Tryz.ntmps192 rfl rfl ?_
  refine zst ?_
  exact fin1 (.inl rfl) rfl rfl ⟨rfl, rfl⟩
theorem c_tsubset (b b' : Nat) (w : World) (h' : Has w b' (.cells #[.bool false, .nilIface] tTM)) :
    Calls Tryz.prog 212 #[pt b, pt b'] w (Ret fun r w' => r = .bool true ∧ w = w') := by
  refine W.enter (args := [pt b, pt b']) Tryz.func212 rfl Tryz.ntmps212 rfl rfl ?_
  refine zst ?_
  exact fin1 (.inl rfl) rfl rfl ⟨rfl, rfl⟩
theorem c_superset (v : Value) (b : Nat) (w : World) (h : AllT w v) : Calls Tryz.prog 191 #[v, pt b] w (Ret fun r w' => r = .bool true ∧ w = w') := by
  obtain ⟨g, c, tb, cs, rfl, h1, _, h2⟩ := h.open
  refine W.enter (args := [.slice (some ⟨g, 0, none⟩) 1 c, pt b]) Tryz.func191 rfl Tryz.ntmps191 rfl rfl ?_
  refine zst ?_
  refine W.loop1 (WLp.next ?_)
  refine zst ?_
  rw [show decide ((0 : Int) < ((1 : Nat) : Int)) = true from rfl]
  refine zst ?_
  refine WU.yld rfl rfl rfl (yld_load_c rfl h1) ?_
  refine zst ?_
  refine WU.stp rfl rfl rfl (stp_call rfl (c_tsubset b tb w h2)) ?_
  rintro _ _ ⟨rfl, rfl⟩
  refine zst ?_
  exact fin1 (.inl rfl) rfl rfl ⟨rfl, rfl⟩
theorem c_subset (v v' : Value) (w : World) (h : AllT w v) (h' : AllT w v') : Calls Tryz.prog 167 #[v, v'] w (Ret fun r w' => r = .bool true ∧ w = w') := by
  obtain ⟨g', c', tb', cs', hv', _⟩ := h'.open
  obtain ⟨g, c, tb, cs, rfl, h1, _, h2⟩ := h.open
  subst hv'
  refine W.enter (args := [.slice (some ⟨g, 0, none⟩) 1 c, .slice (some ⟨g', 0, none⟩) 1 c']) Tryz.func167 rfl Tryz.ntmps167 rfl rfl ?_
  refine zst ?_
  refine WU.stp rfl rfl rfl (stp_call rfl (c_isEmpty _ w h')) ?_
  rintro _ _ ⟨rfl, rfl⟩
  refine zst ?_
  refine W.loop1 (WLp.next ?_)
  refine zst ?_
  rw [show decide ((0 : Int) < ((1 : Nat) : Int)) = true from rfl]
  refine zst ?_
  refine WU.yld rfl rfl rfl (yld_load_c rfl h1) ?_
  refine zst ?_
  refine WU.stp rfl rfl rfl (stp_call rfl (c_superset _ tb w h')) ?_
  rintro _ _ ⟨rfl, rfl⟩
  refine zst ?_
  refine WLp.next ?_
  refine zst ?_
  exact fin1 (.inl rfl) rfl rfl ⟨rfl, rfl⟩
theorem c_equal (v v' : Value) (w : World) (h : AllT w v) (h' : AllT w v') : Calls Tryz.prog 136 #[v, v'] w (Ret fun r w' => r = .bool true ∧ w = w') := by
  obtain ⟨g, c, tb, cs, hv, _⟩ := h.open
  obtain ⟨g', c', tb', cs', hv', _⟩ := h'.open
  subst hv hv'
  refine W.enter (args := [.slice (some ⟨g, 0, none⟩) 1 c, .slice (some ⟨g', 0, none⟩) 1 c']) Tryz.func136 rfl Tryz.ntmps136 rfl rfl ?_
  refine zst ?_
  refine WU.stp rfl rfl rfl (stp_call rfl (c_subset _ _ w h h')) ?_
  rintro _ _ ⟨rfl, rfl⟩
  refine zst ?_
  refine WU.stp rfl rfl rfl (stp_call rfl (c_subset _ _ w h' h)) ?_
  rintro _ _ ⟨rfl, rfl⟩
  refine zst ?_
  exact fin1 (.inl rfl) rfl rfl ⟨rfl, rfl⟩
theorem App.nil {w w' : World} {n c : Nat} (a : App w w' (.slice none n c)) : Ext w w' := ⟨⟨a.os, a.tape, a.output, a.size, fun d hd => a.block d hd fun e => by cases e⟩⟩
/-- a row of one term -/
def Row1 (w : World) (base : Nat) (v : Value) (tb : Nat) : Prop := ∃ g c cs, v = .slice (some ⟨g, 0, none⟩) 1 c ∧ base ≤ g ∧ Has w g (.cells cs tTP) ∧ cs[0]? = some (pt tb)
theorem Row1.ext {w w' : World} (x : Ext w w') {base : Nat} {v : Value} {tb : Nat} (h : Row1 w base v tb) : Row1 w' base v tb := by
  obtain ⟨g, c, cs, h1, h2, h3, h4⟩ := h
  exact ⟨g, c, cs, h1, h2, h3.ext' x, h4⟩
theorem Row1.all {w : World} {base : Nat} {v : Value} {tb : Nat} (h : Row1 w base v tb) (hb : Has w tb (.cells #[.bool false, .nilIface] tTM)) : AllT w v := by
  obtain ⟨g, c, cs, h1, _, h3, h4⟩ := h
  exact ⟨_, c, tb, h1, fun i hi => by obtain rfl : i = 0 := by omega
                                      exact ⟨g, cs, rfl, h3, h4⟩, hb⟩
theorem Row1.q {w : World} {base : Nat} {v : Value} {tb : Nat} (h : Row1 w base v tb) (hb : Has w tb (.cells #[.bool false, .nilIface] tTM)) {p : Nat → Prop} (hp : ∀ d, base ≤ d → p d) (hpt : p tb) : AllQ w p v := by
  obtain ⟨g, c, cs, h1, h2, h3, h4⟩ := h
  exact ⟨_, c, tb, h1, fun i hi => by obtain rfl : i = 0 := by omega
                                      exact ⟨g, cs, rfl, hp g h2, h3, h4⟩, hpt, hb⟩
theorem row1_own {w : World} {base tb : Nat} {v : Value} (h : Own w base tTP 1 v [[pt tb]]) : Row1 w base v tb := by
  obtain ⟨a, cp, h1, h2⟩ := Own.row1 (n := 1) (f := fun _ => pt tb) h
  obtain ⟨g, cs, k1, k2, _, k4, k5⟩ := h2 0 (by omega)
  exact ⟨g, cp, cs, by rw [h1, k1], k2, k4, k5⟩
theorem c_norm (v : Value) (base tb : Nat) (w : World) (h : Row1 w base v tb) (hb : Has w tb (.cells #[.bool false, .nilIface] tTM)) :
    Calls Tryz.prog 189 #[v] w (Ret fun r w' => Row1 w' w.heap.size r tb ∧ Ext w w') := by
  obtain ⟨g, c, cs, rfl, _, h1, h2⟩ := h
  have hc := cell_of h1 h2
  refine W.enter (args := [.slice (some ⟨g, 0, none⟩) 1 c]) Tryz.func189 rfl Tryz.ntmps189 rfl rfl ?_
  refine zst ?_
  refine WU.stp rfl rfl rfl (stp_makeSlice (n := 1) rfl rfl (by omega)) ?_
  rintro _ w1 ⟨b1, rfl, n1⟩
  have ib1 := n1.has
  have hb1 := hb.ext' n1.ext
  refine zst ?_
  refine W.loop1 (WLp.next ?_)
  refine zst ?_
  rw [show decide ((0 : Int) < ((1 : Nat) : Int)) = true from rfl]
  refine zst ?_
  refine WU.yld rfl rfl rfl (yld_load_c rfl (n1.ext.cell hc)) ?_
  refine zst ?_
  refine W.loop1 (WLp.next ?_)
  refine zst ?_
  refine WU.stp rfl rfl rfl (stp_buildSlice rfl rfl rfl rfl rfl) ?_
  rintro _ w2 ⟨b2, rfl, n2⟩
  refine WU.stp rfl rfl rfl (stp_append1 (el := tTP) rfl rfl (Own.nil w2 w.heap.size tTP 1) (Cells.has n2.has) rfl rfl (by omega) (by simp [Value.oneCell']) (by simp) (Nat.le_trans n1.ext.size n2.ext.size)) ?_
  rintro v' w3 ⟨o3, a3, _⟩
  refine zst ?_
  refine WLp.next ?_
  refine zst ?_
  exact fin1 (.inl rfl) rfl rfl ⟨row1_own o3, (n1.ext.trans n2.ext).trans (App.nil a3)⟩
theorem c_intersect (v v' : Value) (w : World) (p : Nat → Prop) (hp : ∀ d, w.heap.size ≤ d → p d) (h : AllT w v) (h' : AllQ w p v') :
    Calls Tryz.prog 170 #[v, v'] w (Ret fun r w' => AllQ w' p r ∧ Ext w w') := by
  obtain ⟨g, c, tb, cs, hv, h1, _, h2⟩ := h.open
  obtain ⟨a', c', tb', hv', h1', hpt, h2'⟩ := h'
  obtain ⟨g', cs', hg', _, k1, k2⟩ := h1' 0 (by omega)
  have hA' : AllT w v' := ⟨a', c', tb', hv', h1'.row, h2'⟩
  subst hv hv' hg'
  refine W.enter (args := [.slice (some ⟨g, 0, none⟩) 1 c, .slice (some ⟨g', 0, none⟩) 1 c']) Tryz.func170 rfl Tryz.ntmps170 rfl rfl ?_
  refine zst ?_
  refine WU.stp rfl rfl rfl (stp_call rfl (c_isEmpty _ w h)) ?_
  rintro _ _ ⟨rfl, rfl⟩
  refine zst ?_
  refine WU.stp rfl rfl rfl (stp_call rfl (c_isEmpty _ w hA')) ?_
  rintro _ _ ⟨rfl, rfl⟩
  refine zst ?_
  refine W.loop1 (WLp.next ?_)
  refine zst ?_
  rw [show decide ((0 : Int) < ((1 : Nat) : Int)) = true from rfl]
  refine zst ?_
  refine WU.yld rfl rfl rfl (yld_load_c rfl h1) ?_
  refine zst ?_
  refine W.loop1 (WLp.next ?_)
  refine zst ?_
  rw [show decide ((0 : Int) < ((1 : Nat) : Int)) = true from rfl]
  refine zst ?_
  refine WU.yld rfl rfl rfl (yld_load_c rfl (cell_of k1 k2)) ?_
  refine zst ?_
  refine WU.stp rfl rfl rfl (stp_call rfl (c_tintersect tb tb' w h2)) ?_
  rintro _ _ ⟨rfl, rfl⟩
  refine zst ?_
  refine WU.stp rfl rfl rfl (stp_buildSlice rfl rfl rfl rfl rfl) ?_
  rintro _ w2 ⟨b2, rfl, n2⟩
  refine WU.stp rfl rfl rfl (stp_append1 (el := tTP) rfl rfl (Own.nil w2 w.heap.size tTP 1) (Cells.has n2.has) rfl rfl (by omega) (by simp [Value.oneCell']) (by simp) n2.ext.size) ?_
  rintro v' w3 ⟨o3, a3, _⟩
  have x3 : Ext w w3 := n2.ext.trans (App.nil a3)
  have hr3 := row1_own o3
  obtain ⟨gr, cr, csr, rfl, _⟩ := hr3
  refine zst ?_
  refine WLp.next ?_
  refine zst ?_
  refine WLp.next ?_
  refine zst ?_
  refine WU.stp rfl rfl rfl (stp_call rfl (c_norm _ w.heap.size tb' w3 (row1_own o3) (h2'.ext' x3))) ?_
  rintro r w4 ⟨hr4, x4⟩
  refine zst ?_
  exact fin1 (.inl rfl) rfl rfl ⟨hr4.q ((h2'.ext' x3).ext' x4) (fun d hd => hp d (Nat.le_trans x3.size hd)) hpt, x3.trans x4⟩
theorem c_intersectTermLists (v v' : Value) (w : World) (p : Nat → Prop) (hp : ∀ d, w.heap.size ≤ d → p d) (h : AllT w v) (h' : AllQ w p v') :
    Calls Tryz.prog 151 #[v, .bool false, v', .bool false] w (Ret fun r w' => ∃ u, r = .tuple #[u, .bool false] ∧ AllQ w' p u ∧ Ext w w') := by
  obtain ⟨g, c, tb, cs, hv, _⟩ := h.open
  obtain ⟨g', c', tb', cs', hv', _⟩ := h'.all.open
  subst hv hv'
  refine W.enter (args := [.slice (some ⟨g, 0, none⟩) 1 c, .bool false, .slice (some ⟨g', 0, none⟩) 1 c', .bool false]) Tryz.func151 rfl Tryz.ntmps151 rfl rfl ?_
  refine zst ?_
  refine WU.stp rfl rfl rfl (stp_call rfl (c_intersect _ _ w p hp h h')) ?_
  rintro r w2 ⟨hr, x2⟩
  obtain ⟨g2, c2, tb2, cs2, hv2, _⟩ := hr.all.open
  subst hv2
  refine zst ?_
  refine WU.stp rfl rfl rfl (stp_call rfl (c_assert w2)) ?_
  rintro _ _ rfl
  refine zst ?_
  exact fin2 (.inl rfl) rfl rfl rfl ⟨_, rfl, hr, x2⟩
end Go.Proofs.YtpiegpegjbmlkaaGreatDoor
namespace Go.Kd
variable {P : Program} {e : Env} {w : World} {d : Option Tmp} {ty t t2 : TypeId} {pos : String} {aft : Array Edge} {g : Option (Nat × Bool)} {x y z : Operand}
/-- a call of a function value that has captured variables -/
theorem stp_callc {f : Operand} {k : FuncId} {caps : List Value} {args : List Operand} {tys : Array TypeId} {vs : List Value} {R : Value → World → Prop} [h : Fun P k] (hf : ev e f = some (.func (.func k) #[] caps.toArray)) (ha : evs e args = some vs) (hc : Calls P k (vs ++ caps).toArray w (Ret R)) :
    Stp P e ⟨d, .call ⟨.value f, args.toArray, tys⟩, ty, pos, aft, g⟩ w R := ⟨fun ρ hρ => by
  obtain ⟨fn, h1, h2, h3⟩ := h.at_
  have hv : args.toArray.map ρ = vs.toArray := by rw [← evs_spec hρ args vs ha]; simp
  have hf' : ρ f = .func (.func k) #[] caps.toArray := hρ _ _ hf
  simp only [execOp, resolve, hv, hf', Deferred.ofValue, invoke, callFunc, program, bind, Sem.bind, Sem.run, pure, h1, h2, h3, Bool.false_eq_true, if_false, List.append_toArray]
  exact hc⟩

/-! ### Maps keyed by pointers -/
def PKeys (w : World) (tk : TypeId) (es : List MapEntry) : Prop := ∀ m ∈ es, ∃ a cs, m.key = .pointer (some a) ∧ Has w a.block (.cells cs tk (0, 0))
theorem run_asking_ptr {key tk : TypeId} [h : PtrT P key] {a : Addr} (ha : Pl w a.block) (es : List MapEntry) : ∀ (i : Nat), PKeys w tk es → ∃ q, (Instr.findAsking key (.pointer (some a)) es i).run P w = .ok q w ∧
    ∀ j v, q = some (j, v) → ∃ k m, j = i + k ∧ es[k]? = some m ∧ m.key = .pointer (some a) := by
  induction es with
  | nil => exact fun i _ => ⟨none, rfl, fun j v hj => by cases hj⟩
  | cons m r ih =>
    intro i hn
    obtain ⟨a', cs', h1, h2'⟩ := hn m (List.mem_cons_self ..)
    have h2 : Pl w a'.block := ⟨cs', tk, h2'.at_⟩
    obtain ⟨q, hq, hq2⟩ := ih (i + 1) fun m' hm' => hn m' (List.mem_cons_of_mem _ hm')
    have heq := run_equal_ptr (P := P) (t := key) (a := a) (b := a') ha h2
    by_cases hab : a = a'
    · subst hab
      refine ⟨some (i, m.val), ?_, fun j v hj => ?_⟩
      · rw [Instr.findAsking]
        simp only [h1, Sem.run_bind, heq, Result.andThen_ok, decide_true, if_true]
        rfl
      · simp only [Option.some.injEq, Prod.mk.injEq] at hj
        exact ⟨0, m, by omega, rfl, h1⟩
    · refine ⟨q, ?_, fun j v hj => ?_⟩
      · rw [Instr.findAsking]
        simp only [h1, Sem.run_bind, heq, Result.andThen_ok, decide_eq_false hab, Bool.false_eq_true, if_false]
        exact hq
      · obtain ⟨k, m', k1, k2, k3⟩ := hq2 j v hj
        exact ⟨k + 1, m', by omega, k2, k3⟩
theorem run_findKey_ptr {key tk : TypeId} [h : PtrT P key] {a : Addr} (ha : Pl w a.block) {es : List MapEntry} (hn : PKeys w tk es) : ∃ q, (Instr.findKey key (.pointer (some a)) es).run P w = .ok q w ∧ ∀ j v, q = some (j, v) → ∃ m, es[j]? = some m ∧ m.key = .pointer (some a) := by
  obtain ⟨el, i, h1, _⟩ := h.at_
  cases es with
  | nil =>
    refine ⟨none, ?_, fun j v hj => by cases hj⟩
    unfold Instr.findKey
    simp only [Sem.run_bind, run_underlying h1, Result.andThen_ok]
    rfl
  | cons m r =>
    obtain ⟨q, hq, hq2⟩ := run_asking_ptr (P := P) (key := key) ha (m :: r) 0 hn
    refine ⟨q, ?_, fun j v hj => ?_⟩
    · have : Instr.findNow (.pointer el) (.pointer (some a)) (m :: r) 0 = none := by simp [Instr.findNow, Instr.sameNow]
      unfold Instr.findKey
      simp only [Sem.run_bind, run_underlying h1, Result.andThen_ok, this]
      exact hq
    · obtain ⟨k, m', k1, k2, k3⟩ := hq2 j v hj
      exact ⟨m', by rw [k1, Nat.zero_add]; exact k2, k3⟩
theorem run_checkKey_ptr {key : TypeId} [h : PtrT P key] {emp : Bool} {v : Value} : (Instr.checkKey emp 10000 key v).run P w = .ok () w := by
  obtain ⟨el, i, h1, _⟩ := h.at_
  have hk : ∀ k : Nat, (Instr.checkKey emp (k + 1) key v).run P w = .ok () w := fun k => by
    rw [Instr.checkKey]
    simp [run_underlying h1]
  exact hk 9999
theorem run_stays {a : Option Addr} : (Instr.keyThatStays (.pointer a) (.pointer a)).run P w = .ok (.pointer a) w := by
  have hk : ∀ k : Nat, Instr.sameBits k (.pointer a) (.pointer a) = true := fun k => by unfold Instr.sameBits; simp
  unfold Instr.keyThatStays
  rw [hk]
  rfl
theorem PKeys.keep {w w' : World} {tk : TypeId} {es : List MapEntry} (h : PKeys w tk es) (hs : ∀ b cs, Has w b (.cells cs tk (0, 0)) → Has w' b (.cells cs tk (0, 0))) : PKeys w' tk es := fun m hm => by
  obtain ⟨a, cs, h1, h2⟩ := h m hm
  exact ⟨a, cs, h1, hs _ _ h2⟩
theorem stp_mapPtr {key el tk : TypeId} {a : Addr} {v : Value} {r : Nat} {es : Array MapEntry} {c : Nat} {ca : Array Value} [hm : Und P t (.map key el)] [h : PtrT P key]
    (hx : ev e x = some (.map (some r))) (hy : ev e y = some (.pointer (some a))) (hv : ev e z = some v) (hr : Has w r (.map es c)) (hha : Has w a.block (.cells ca tk (0, 0))) (hn : PKeys w tk es.toList) :
    Stp P e ⟨d, .mapUpdate t x y z, ty, pos, aft, g⟩ w (fun _ w' => ∃ es' c', Upd w r (.map es' c') w' ∧ PKeys w tk es'.toList) := ⟨fun ρ hρ => by
  have ha : Pl w a.block := ⟨ca, tk, hha.at_⟩
  obtain ⟨q, hq, hq2⟩ := run_findKey_ptr (P := P) (key := key) ha hn
  cases q with
  | none =>
    have hu := Upd.setMap (es' := es.push ⟨.pointer (some a), v, c⟩) (c' := c + 1) hr
    simp [execOp, hρ x _ hx, hρ y _ hy, hρ z _ hv, Instr.mapUpdate, Sem.run_bind, run_underlying hm.at_, run_checkKey_ptr (P := P) (w := w) (key := key), hq, run_getMap hr.at_, run_setMap _ hr.at_]
    refine ⟨_, ⟨_, hu⟩, fun m hm' => ?_⟩
    rw [Array.toList_push] at hm'
    rcases List.mem_append.1 hm' with h1 | h1
    · exact hn m h1
    · simp at h1; subst h1; exact ⟨a, ca, rfl, hha⟩
  | some jv =>
    obtain ⟨j, v0⟩ := jv
    obtain ⟨m, h1, h2⟩ := hq2 j v0 rfl
    have h3 : ((es[j]?).map (·.key)).getD (.pointer (some a)) = .pointer (some a) := by
      rw [← Array.getElem?_toList, h1]
      exact h2
    have hu := Upd.setMap (es' := es.modify j fun e => { e with key := .pointer (some a), val := v }) (c' := c) hr
    simp [execOp, hρ x _ hx, hρ y _ hy, hρ z _ hv, Instr.mapUpdate, Sem.run_bind, run_underlying hm.at_, run_checkKey_ptr (P := P) (w := w) (key := key), hq, run_getMap hr.at_, run_setMap _ hr.at_, h3, run_stays]
    refine ⟨_, ⟨_, hu⟩, fun m hm' => ?_⟩
    obtain ⟨i, hi⟩ := List.getElem?_of_mem hm'
    rw [Array.getElem?_toList, Array.getElem?_modify] at hi
    by_cases hji : j = i
    · subst hji
      rw [if_pos rfl] at hi
      cases hes : es[j]? with
      | none => rw [hes] at hi; cases hi
      | some m0 =>
        rw [hes] at hi
        simp at hi
        subst hi
        exact ⟨a, ca, rfl, hha⟩
    · rw [if_neg hji] at hi
      exact hn m (by rw [← Array.getElem?_toList] at hi; exact List.mem_of_getElem? hi)⟩
end Go.Kd
namespace Go.Proofs.YtpiegpegjbmlkaaGreatDoor
open Go Go.Kd
set_option maxRecDepth 100000

theorem Has.tne {w : World} {b b' : Nat} {cs cs' : Array Value} {t t' : TypeId} (h : Has w b (.cells cs t (0, 0))) (k : Has w b' (.cells cs' t' (0, 0))) (ht : t ≠ t') : b ≠ b' := fun e => by
  subst e
  have := h.at_.symm.trans k.at_
  simp only [Option.some.injEq, Obj.cells.injEq] at this
  exact ht this.2.1
theorem Has.mne {w : World} {b b' : Nat} {cs : Array Value} {t : TypeId} {es : Array MapEntry} {c : Nat} (h : Has w b (.cells cs t (0, 0))) (k : Has w b' (.map es c)) : b ≠ b' := fun e => by
  subst e
  have := h.at_.symm.trans k.at_
  cases this
abbrev tMS : Nat := 171
abbrev tMP : Nat := 253
theorem OSet.hasps {w : World} {base ps : Nat} {l : List (List UInt8 × Value)} (h : OSet w base ps l) : ∃ m, Has w ps (.cells #[m] tOS) := by
  rcases h.at_ with ⟨h1, _⟩ | ⟨r, es, c, _, _, h3, _⟩
  · exact ⟨_, h1⟩
  · exact ⟨_, h3⟩
/-- what the function that adds methods works on: the set of names, the methods, their places -/
structure AM (w : World) (base ps pa pp rr : Nat) (l : List (List UInt8 × Value)) (v : Value) (fbs : List Nat) : Prop where
  os : OSet w base ps l
  al : Has w pa (.cells #[v] tMS)
  ow : Own w base tFN 1 v (fbs.map fun b => [pt b])
  mp : Has w pp (.cells #[.map (some rr)] tMP)
  mm : ∃ es c, Has w rr (.map es c) ∧ PKeys w tFU es.toList
  ba : base ≤ pa
  br : base ≤ rr
theorem pkeys_sm {w : World} {tk : TypeId} {es : List MapEntry} {l : List (List UInt8 × Value)} (h : PKeys w tk es) (k : SM es l) : l = [] := by
  cases l with
  | nil => rfl
  | cons p q =>
    cases es with
    | nil => exact k.elim
    | cons m r =>
      obtain ⟨a, _, h1, _⟩ := h m (List.mem_cons_self ..)
      obtain ⟨⟨s, h2, _⟩, _⟩ := k
      rw [h1] at h2
      cases h2
/-- what is not worked on stays -/
def AKept (w w' : World) (ps pa : Nat) (v : Value) : Prop := ∀ (d : Nat) (o : Obj), w.heap[d]? = some o → d ≠ ps → d ≠ pa → v.ownBlock ≠ some d → (∀ es c, o ≠ Obj.map es c) → w'.heap[d]? = some o
theorem Own.cellsOf {w : World} {base el sz : Nat} {v : Value} {ls : List (List Value)} (h : Own w base el sz v ls) : ∀ k, v.ownBlock = some k → ∃ cs, Has w k (.cells cs el) := fun k hk => by
  rcases h.row.2 with ⟨h1, _⟩ | ⟨g, cap, cur, h1, _, h3, _⟩
  · rw [h1] at hk; cases hk
  · rw [h1] at hk
    cases hk
    exact ⟨cur, ⟨h3⟩⟩
theorem AM.kept {w w' : World} {base ps pa pp rr : Nat} {l : List (List UInt8 × Value)} {v : Value} {fbs : List Nat} (h : AM w base ps pa pp rr l v fbs) (hk : ∀ (d : Nat) (o : Obj), w.heap[d]? = some o → (∀ cs t, o = Obj.cells cs t (0, 0) → t ≠ tIF ∧ t ≠ tTS) → w'.heap[d]? = some o) : AM w' base ps pa pp rr l v fbs := by
  have hc : ∀ {d t : Nat} {cs : Array Value}, t ≠ tIF ∧ t ≠ tTS → Has w d (.cells cs t) → Has w' d (.cells cs t) := fun ht h => ⟨hk _ _ h.at_ fun cs' t' e => by
    cases e; exact ht⟩
  have hm : ∀ {d : Nat} {es : Array MapEntry} {c : Nat}, Has w d (.map es c) → Has w' d (.map es c) := fun h => ⟨hk _ _ h.at_ fun cs' t' e => by cases e⟩
  obtain ⟨es, c, h1, h2⟩ := h.mm
  refine ⟨⟨h.os.bs, h.os.ifs, ?_⟩, hc (by decide) h.al, h.ow.kept fun k hk' => ?_, hc (by decide) h.mp, ⟨es, c, hm h1, h2.keep fun b cs h => hc (by decide) h⟩, h.ba, h.br⟩
  · rcases h.os.at_ with ⟨k1, k2⟩ | ⟨r, es', c', k1, k2, k3, k4, k5⟩
    · exact .inl ⟨hc (by decide) k1, k2⟩
    · exact .inr ⟨r, es', c', k1, k2, hc (by decide) k3, hm k4, k5⟩
  · obtain ⟨cs, k1⟩ := Own.cellsOf h.ow k hk'
    exact (hc (by decide) k1).at_.trans k1.at_.symm
theorem OSet.updP {w w' : World} {base ps : Nat} {l : List (List UInt8 × Value)} (h : OSet w base ps l) (hl : l ≠ []) {b tk : Nat} {es : Array MapEntry} {c : Nat} {o : Obj} (hb : Has w b (.map es c)) (hp : PKeys w tk es.toList) (u : Upd w b o w') (hne : b ≠ ps) : OSet w' base ps l := ⟨h.bs, h.ifs, by
  rcases h.at_ with ⟨_, h2⟩ | ⟨r, es', c', h1, h2, h3, h4, h5, h6⟩
  · exact absurd h2 hl
  · refine .inr ⟨r, es', c', h1, h2, ⟨(u.oth _ (Ne.symm hne)).trans h3.at_⟩, ⟨(u.oth _ fun e => ?_).trans h4.at_⟩, h5, h6⟩
    subst e
    have := hb.at_.symm.trans h4.at_
    simp only [Option.some.injEq, Obj.map.injEq] at this
    rw [← this.1] at h5
    exact hl (pkeys_sm hp h5)⟩
theorem OSet.app {w w' : World} {base ps base' : Nat} {l : List (List UInt8 × Value)} {v : Value} {ls : List (List Value)} (h : OSet w base ps l) (a : App w w' v) (ho : Own w base' tFN 1 v ls) : OSet w' base ps l := ⟨h.bs, h.ifs, by
  rcases h.at_ with ⟨h1, h2⟩ | ⟨r, es', c', h1, h2, h3, h4, h5⟩
  · exact .inl ⟨Has.app (el := tFN) a ho h1 (by decide), h2⟩
  · exact .inr ⟨r, es', c', h1, h2, Has.app (el := tFN) a ho h3 (by decide), App.keep a h4 (fun k hk => by
      obtain ⟨cs, k1⟩ := Own.cellsOf ho k hk
      exact Has.mne k1 h4), h5⟩⟩

set_option maxHeartbeats 2000000 in
theorem c_addM (base ps pa pp rr b : Nat) (l : List (List UInt8 × Value)) (v : Value) (fbs : List Nat) (pos : Int) (ex : Bool) (pk : Value) (nm path : ByteArray) (vv : Value) (w : World) (h : AM w base ps pa pp rr l v fbs) (hb : base ≤ w.heap.size)
    (hp : Prp w) (hf : FuncV w b pk nm vv) (hk : PkV w nm pk path) (ha : Asc nm) (hz : path.size + nm.size ≤ 4611686018427387904) (hlen : fbs.length ≤ 1073741824) :
    Calls Tryz.prog 149 #[.int .i64 pos, pt b, .bool ex, pt ps, pt pa, pt pp] w (Ret fun _ w' => RowKit.Below base w w' ∧ ∃ l' v' fbs', AM w' base ps pa pp rr l' v' fbs' ∧ AKept w w' ps pa v ∧ (∀ g, v'.ownBlock = some g → v.ownBlock = some g ∨ w.heap.size ≤ g) ∧
      (((∃ p ∈ l, p.1 = idS nm.toList path.toList) ∧ l' = l ∧ fbs' = fbs) ∨ ((∀ p ∈ l, p.1 ≠ idS nm.toList path.toList) ∧ l' = l ++ [(idS nm.toList path.toList, .iface tFN (pt b))] ∧ fbs' = fbs ++ [b]))) := by
  obtain ⟨mv, hps⟩ := h.os.hasps
  have hal := h.al
  have hmp := h.mp
  obtain ⟨es, c, hrr, hpk⟩ := h.mm
  have hpaps : pa ≠ ps := Has.tne hal hps (by decide)
  have hppps : pp ≠ ps := Has.tne hmp hps (by decide)
  have hrrps : rr ≠ ps := Ne.symm (Has.mne hps hrr)
  have hpppa : pp ≠ pa := Has.tne hmp hal (by decide)
  have hrrpa : rr ≠ pa := Ne.symm (Has.mne hal hrr)
  have hrrpp : rr ≠ pp := Ne.symm (Has.mne hmp hrr)
  refine W.enter (args := [.int .i64 pos, pt b, .bool ex, pt ps, pt pa, pt pp]) Tryz.func149 rfl Tryz.ntmps149 rfl rfl ?_
  refine zst ?_
  refine WU.stp rfl rfl rfl (stp_call rfl (c_insert tFN base ps b l pk nm path vv w h.os hb hp hf.obj hk ha hz)) ?_
  rintro r w1 ⟨bl, hcase, hkp⟩
  have keepC : ∀ {d t : Nat} {cs : Array Value}, d ≠ ps → Has w d (.cells cs t) → Has w1 d (.cells cs t) := fun hd h => ⟨hkp _ _ h.lt hd h.at_ fun es c e => by cases e⟩
  have hal1 := keepC hpaps hal
  have hmp1 := keepC hppps hmp
  have hrr1 : Has w1 rr (.map es c) := ⟨hkp _ _ hrr.lt hrrps hrr.at_ fun es' c' e hl hsm => by
    cases e
    exact hl (pkeys_sm hpk hsm)⟩
  have hownps : ∀ k, v.ownBlock = some k → k ≠ ps := fun k hk' e => by
    obtain ⟨cs, k1⟩ := Own.cellsOf h.ow k hk'
    exact Has.tne k1 hps (by decide) e
  have how1 : Own w1 base tFN 1 v (fbs.map fun b => [pt b]) := h.ow.kept fun k hk' => by
    obtain ⟨cs, k1⟩ := Own.cellsOf h.ow k hk'
    exact (keepC (hownps k hk') k1).at_.trans k1.at_.symm
  have fu1 : ∀ d cs, Has w d (.cells cs tFU (0, 0)) → Has w1 d (.cells cs tFU (0, 0)) := fun d cs hd => keepC (Has.tne hd hps (by decide)) hd
  have kept1 : ∀ d o, w.heap[d]? = some o → d ≠ ps → (∀ es c, o ≠ Obj.map es c) → w1.heap[d]? = some o := fun d o ho hd hm => hkp d o (Array.getElem?_eq_some_iff.1 ho).1 hd ho fun es c e => absurd e (hm es c)
  have hb1 : base ≤ w1.heap.size := Nat.le_trans hb bl.size
  rcases hcase with ⟨hin, ⟨T', v', rfl⟩, hO⟩ | ⟨hno, rfl, hO⟩
  · have fin : RowKit.Below base w w1 ∧ ∃ l' v' fbs', AM w1 base ps pa pp rr l' v' fbs' ∧ AKept w w1 ps pa v ∧ (∀ g, v'.ownBlock = some g → v.ownBlock = some g ∨ w.heap.size ≤ g) ∧
      (((∃ p ∈ l, p.1 = idS nm.toList path.toList) ∧ l' = l ∧ fbs' = fbs) ∨ ((∀ p ∈ l, p.1 ≠ idS nm.toList path.toList) ∧ l' = l ++ [(idS nm.toList path.toList, .iface tFN (pt b))] ∧ fbs' = fbs ++ [b])) :=
      ⟨bl, l, v, fbs, ⟨hO, hal1, how1, hmp1, ⟨es, c, hrr1, hpk.keep fu1⟩, h.ba, h.br⟩, fun d o ho h1 _ _ h4 => kept1 d o ho h1 h4, fun g hg => .inl hg, .inl ⟨hin, rfl, rfl⟩⟩
    cases ex
    · refine zst ?_
      exact fin0 (.inr rfl) rfl fin
    · refine zst ?_
      exact fin0 (.inr rfl) rfl fin
  · refine zst ?_
    refine WU.stp rfl rfl rfl (stp_buildSlice rfl rfl rfl rfl rfl) ?_
    rintro _ w2 ⟨b2, rfl, n2⟩
    have hal2 := hal1.ext' n2.ext
    have hmp2 := hmp1.ext' n2.ext
    have hrr2 := hrr1.ext' n2.ext
    have how2 := how1.ext n2.ext
    have hb2 : base ≤ w2.heap.size := Nat.le_trans hb1 n2.ext.size
    refine WU.stp rfl rfl rfl (stp_append1 (el := tFN) rfl rfl how2 (Cells.has n2.has) rfl rfl (by omega) (by simp [Value.oneCell']) (by rw [List.length_map]; exact hlen) hb2) ?_
    rintro v' w3 ⟨o3, a3, g3⟩
    have keep3 : ∀ d, d < w2.heap.size → v.ownBlock ≠ some d → w3.heap[d]? = w2.heap[d]? := fun d hd hne => a3.block d hd fun e => hne e.symm
    have hal3 : Has w3 pa (.cells #[v] tMS) := Has.app (el := tFN) a3 how2 hal2 (by decide)
    have hmp3 : Has w3 pp (.cells #[.map (some rr)] tMP) := Has.app (el := tFN) a3 how2 hmp2 (by decide)
    have hownC : ∀ k, v.ownBlock = some k → ∃ cs, Has w2 k (.cells cs tFN) := Own.cellsOf how2
    have hrr3 : Has w3 rr (.map es c) := ⟨(keep3 rr hrr2.lt fun e => by
      obtain ⟨cs, k1⟩ := hownC rr e
      have := hrr2.at_.symm.trans k1.at_
      cases this).trans hrr2.at_⟩
    obtain ⟨sa, scp, hsh, _, _⟩ := o3.shape
    subst hsh
    refine zst ?_
    refine WU.stp0 rfl rfl (stp_store_cell rfl rfl rfl rfl) ?_
    rintro _ w4 u4
    have hmp4 : Has w4 pp (.cells #[.map (some rr)] tMP) := ⟨(u4.oth pp hpppa).trans hmp3.at_⟩
    have hrr4 : Has w4 rr (.map es c) := ⟨(u4.oth rr hrrpa).trans hrr3.at_⟩
    have hal4 := u4.has
    have fu4 : ∀ d cs, Has w d (.cells cs tFU (0, 0)) → Has w4 d (.cells cs tFU (0, 0)) := fun d cs hd => by
      have h3 := Has.app (el := tFN) a3 how2 ((fu1 d cs hd).ext' n2.ext) (by decide)
      exact ⟨(u4.oth d (Has.tne h3 hal3 (by decide))).trans h3.at_⟩
    refine zst ?_
    refine WU.stp0 rfl rfl (stp_mapPtr (tk := tFU) rfl rfl rfl hrr4 (fu4 b _ hf) (hpk.keep fu4)) ?_
    rintro _ w5 ⟨es', c', u5, hpk5⟩
    refine zst ?_
    have hne5 : ∀ d cs (t : Nat), Has w4 d (.cells cs t) → d ≠ rr := fun d cs t hd => Has.mne hd hrr4
    have hO3 := (hO.ext n2.ext).app a3 how2
    have hO4 := hO3.upd u4 hpaps fun es c h => by
      have := hal3.at_.symm.trans h.at_
      cases this
    have hO5 := hO4.updP (by simp) hrr4 (hpk.keep fu4) u5 hrrps
    have hown4 : ∀ k, (Value.slice sa _ scp).ownBlock = some k → k ≠ pa := fun k hk e => by
      obtain ⟨cs, k1⟩ := Own.cellsOf o3 k hk
      exact Has.tne k1 hal3 (by decide) e
    have o4 := o3.upd u4 hown4
    have o5 := o4.upd u5 fun k hk => by
      obtain ⟨cs, k1⟩ := Own.cellsOf o4 k hk
      exact hne5 k cs _ k1
    have bel2 : RowKit.Below base w w2 := bel_new bl n2 hb1
    have bel3 : RowKit.Below base w2 w3 := ⟨a3.os, a3.tape, a3.output, a3.size, fun k hk => a3.block k (by omega) fun e => by have := (how2.lt k e.symm).1; omega⟩
    refine fin0 (.inr rfl) rfl ⟨bel_upd (bel_upd (bel2.trans bel3) u4 h.ba) u5 h.br, _, _, _, ⟨hO5, ⟨(u5.oth pa (Ne.symm hrrpa)).trans hal4.at_⟩, by rw [List.map_append]; exact o5, ⟨(u5.oth pp (Ne.symm hrrpp)).trans hmp4.at_⟩, ⟨es', c', u5.has, hpk5.keep fun d cs h => ⟨(u5.oth d (hne5 d cs _ h)).trans h.at_⟩⟩, h.ba, h.br⟩, fun d o ho h1 h2 h3 h4 => ?_, fun g hg => (g3 g hg).imp id fun h => ?_, .inr ⟨hno, rfl, rfl⟩⟩
    · have k1 := kept1 d o ho h1 h4
      have hlt1 := (Array.getElem?_eq_some_iff.1 k1).1
      have k2 : w2.heap[d]? = some o := (n2.ext.below.block d hlt1).trans k1
      have k3 : w3.heap[d]? = some o := (keep3 d (Nat.lt_of_lt_of_le hlt1 n2.ext.size) h3).trans k2
      have k4 : w4.heap[d]? = some o := (u4.oth d h2).trans k3
      refine (u5.oth d fun e => ?_).trans k4
      subst e
      exact h4 _ _ (Option.some.inj (k4.symm.trans hrr4.at_))
    · have := n2.ext.size
      have := bl.size
      omega
end Go.Proofs.YtpiegpegjbmlkaaGreatDoor
namespace Go.Proofs.YtpiegpegjbmlkaaGreatDoor
open Go Go.Kd
set_option maxRecDepth 100000

/-- no alias: what the value's dynamic type is -/
theorem RT.noAl {K : Cfg} {s : Gs} {w : World} {i : Nat} {p : Nat → Prop} {v : Value} {t : Ty} (hd : DclI K s w i) (he : ErrI K s w) (h : RT K s w p v t) (hi : Rdy K i t) (ha : isAl K.D t = false) : ∃ T b, v = .iface T (pt b) ∧ (litT T ∨ T = tNP) := by
  by_cases hk : t.kind = 1
  · obtain ⟨h0, h1, h2⟩ := hi hk
    have hel := List.getElem?_eq_getElem h1
    obtain ⟨b, ob, T, ub, ms, y, rfl, _⟩ := hd.def_ hel h2 (by rw [← isAl_n hk hel]; exact ha) (h.nam hk)
    exact ⟨_, b, rfl, .inr rfl⟩
  · by_cases hye : t.kind = 0 ∧ t.n = 20
    · obtain ⟨b2, ob2, u, ms, nm, q1, _⟩ := he
      exact ⟨_, b2, (h.err hye.1 hye.2).trans q1, .inr rfl⟩
    · obtain ⟨b2, hv, _⟩ := h.lit ⟨hk, hye⟩
      exact ⟨_, b2, hv, .inl (dynT_lit t)⟩
theorem c_isTypeParam {K : Cfg} {s : Gs} {w : World} {i : Nat} {p : Nat → Prop} {v : Value} {t : Ty} (hD : ShapedD K.D) (hd : DclI K s w i) (he : ErrI K s w) (h : RT K s w p v t) (hi : Rdy K i t) :
    Calls Tryz.prog 71 #[v] w (Ret fun r w' => r = .bool false ∧ w = w') := by
  refine W.enter (args := [v]) Tryz.func71 rfl Tryz.ntmps71 rfl rfl ?_
  refine zst ?_
  refine WU.stp rfl rfl rfl (stp_call rfl (c_gUnalias hD hd he h hi)) ?_
  rintro r _ ⟨rfl, y, k1, k2, k3, k4, k5⟩
  obtain ⟨T, c, rfl, hT⟩ := k1.noAl hd he k5 k2
  have hT2 : Nat.beq T 112 = false := by
    rcases hT with h | rfl
    · exact h.ne.2.2.1
    · rfl
  refine zst ?_
  exact fin1 (.inl rfl) rfl rfl ⟨rfl, rfl⟩

/-- what is collected: methods, their blocks, the names in the set -/
structure Col (K : Cfg) (s : Gs) (w : World) (out : List Mt) (fbs : List Nat) (l : List (List UInt8 × Value)) : Prop where
  len : fbs.length = out.length
  ids : l.map Prod.fst = out.map fun m => idS m.name.toList (pth m.pkg).toList
  ms : ∀ (i : Nat) m f, out[i]? = some m → fbs[i]? = some f → MthO K s w s.sl m f
  nd : (out.map keyM).Nodup
theorem Col.nil (K : Cfg) (s : Gs) (w : World) : Col K s w [] [] [] := ⟨rfl, rfl, fun i m f h => by simp at h, by simp⟩
theorem Col.tr {K : Cfg} {s : Gs} {w w' : World} (y : Tr K w w' s.sl s.sl) {out : List Mt} {fbs : List Nat} {l : List (List UInt8 × Value)} (h : Col K s w out fbs l) : Col K s w' out fbs l := ⟨h.len, h.ids, fun i m f h1 h2 => (h.ms i m f h1 h2).tr y, h.nd⟩
theorem MthO.id {K : Cfg} {s : Gs} {w : World} {p : Nat → Prop} {m : Mt} {f : Nat} (h : MthO K s w p m f) : Ident m.name.toList ∧ (m.pkg = 0 ∨ m.pkg = 1) ∧ m.name.size ≤ Big := by
  obtain ⟨pk, sv, _, _, _, _, _, h6, h7, h8⟩ := h
  exact ⟨h6, h7, h8⟩
theorem Col.mem {K : Cfg} {s : Gs} {w : World} {out : List Mt} {fbs : List Nat} {l : List (List UInt8 × Value)} (h : Col K s w out fbs l) : ∀ m ∈ out, Ident m.name.toList ∧ (m.pkg = 0 ∨ m.pkg = 1) ∧ m.name.size ≤ Big := fun m hm => by
  obtain ⟨i, hi⟩ := List.getElem?_of_mem hm
  have hlt : i < fbs.length := by rw [h.len]; exact (List.getElem?_eq_some_iff.1 hi).1
  exact (h.ms i m _ hi (List.getElem?_eq_getElem hlt)).id
theorem Col.has {K : Cfg} {s : Gs} {w : World} {out : List Mt} {fbs : List Nat} {l : List (List UInt8 × Value)} (h : Col K s w out fbs l) {m : Mt} {f : Nat} (hm : MthO K s w s.sl m f) : (∃ p ∈ l, p.1 = idS m.name.toList (pth m.pkg).toList) ↔ keyM m ∈ out.map keyM := by
  obtain ⟨i1, i2, _⟩ := hm.id
  constructor
  · rintro ⟨p, hp, he⟩
    have h1 : p.1 ∈ l.map Prod.fst := List.mem_map_of_mem hp
    rw [h.ids] at h1
    obtain ⟨m', hm', he'⟩ := List.mem_map.1 h1
    obtain ⟨j1, j2, _⟩ := h.mem m' hm'
    have := (idS_key j1 i1 j2 i2).1 (he'.trans he)
    rw [← this]
    exact List.mem_map_of_mem hm'
  · intro hk
    obtain ⟨m', hm', he'⟩ := List.mem_map.1 hk
    obtain ⟨j1, j2, _⟩ := h.mem m' hm'
    have h1 : idS m'.name.toList (pth m'.pkg).toList ∈ l.map Prod.fst := by rw [h.ids]; exact List.mem_map_of_mem hm'
    obtain ⟨p, hp, he⟩ := List.mem_map.1 h1
    exact ⟨p, hp, he.trans ((idS_key j1 i1 j2 i2).2 he')⟩
theorem Col.add {K : Cfg} {s : Gs} {w : World} {out : List Mt} {fbs : List Nat} {l : List (List UInt8 × Value)} (h : Col K s w out fbs l) {m : Mt} {f : Nat} (hm : MthO K s w s.sl m f) (v : Value) :
    ((∃ p ∈ l, p.1 = idS m.name.toList (pth m.pkg).toList) → Col K s w (addM out m) fbs l) ∧ ((∀ p ∈ l, p.1 ≠ idS m.name.toList (pth m.pkg).toList) → Col K s w (addM out m) (fbs ++ [f]) (l ++ [(idS m.name.toList (pth m.pkg).toList, v)])) := by
  have hh := h.has hm
  rcases addM_spec out m with ⟨h1, h2⟩ | ⟨h1, h2⟩
  · refine ⟨fun _ => by rw [h1]; exact h, fun hno => ?_⟩
    obtain ⟨p, hp, he⟩ := hh.2 h2
    exact absurd he (hno p hp)
  · refine ⟨fun hin => absurd (hh.1 hin) h2, fun _ => ?_⟩
    rw [h1]
    refine ⟨by rw [List.length_append, List.length_append, h.len]; rfl, by rw [List.map_append, List.map_append, h.ids]; rfl, fun i m' f' hi hf => ?_, ?_⟩
    · by_cases hlt : i < out.length
      · rw [List.getElem?_append_left hlt] at hi
        rw [List.getElem?_append_left (by rw [h.len]; exact hlt)] at hf
        exact h.ms i m' f' hi hf
      · rw [List.getElem?_append_right (by omega)] at hi
        rw [List.getElem?_append_right (by rw [h.len]; omega), h.len] at hf
        have h0 : i - out.length = 0 := by
          have := (List.getElem?_eq_some_iff.1 hi).1
          simp at this
          omega
        rw [h0] at hi hf
        simp at hi hf
        subst hi hf
        exact hm
    · rw [List.map_append, List.nodup_append]
      refine ⟨h.nd, by simp, fun a ha b hb => ?_⟩
      simp at hb
      subst hb
      exact fun e => h2 (e ▸ ha)
set_option maxHeartbeats 1000000 in
theorem c_addC (K : Cfg) (s : Gs) (base ps pa pp rr f : Nat) (l : List (List UInt8 × Value)) (v : Value) (fbs : List Nat) (out : List Mt) (m : Mt) (pos : Int) (ex : Bool) (w : World) (h : AM w base ps pa pp rr l v fbs) (hb : base ≤ w.heap.size)
    (hp : Prp w) (hpg : PkgOK s w) (hc : Col K s w out fbs l) (hm : MthO K s w s.sl m f) (hsl : ∀ d, s.sl d → d < base) (hlen : out.length ≤ 1073741824) :
    Calls Tryz.prog 149 #[.int .i64 pos, pt f, .bool ex, pt ps, pt pa, pt pp] w (Ret fun _ w' => RowKit.Below base w w' ∧ ∃ l' v' fbs', AM w' base ps pa pp rr l' v' fbs' ∧ Col K s w' (addM out m) fbs' l' ∧ AKept w w' ps pa v ∧
      ∀ g, v'.ownBlock = some g → v.ownBlock = some g ∨ w.heap.size ≤ g) := by
  obtain ⟨pk, sv, k1, k2⟩ := hm.pkv hpg
  obtain ⟨i1, i2, i3⟩ := hm.id
  replace i3 : m.name.size ≤ 268435456 := i3
  refine (c_addM base ps pa pp rr f l v fbs pos ex pk m.name (pth m.pkg) sv w h hb hp k1 k2 i1.asc (by rw [pth_size]; omega) (by rw [hc.len]; exact hlen)).mono ?_
  rintro e w' ⟨r, he, bl, l', v', fbs', hA, hK, hg, hcase⟩
  have y : Tr K w w' s.sl s.sl := .sameM (fun d hd => bl.block d (hsl d hd)) fun _ h => h
  refine ⟨r, he, bl, l', v', fbs', hA, ?_, hK, hg⟩
  rcases hcase with ⟨h1, rfl, rfl⟩ | ⟨h1, rfl, rfl⟩
  · exact ((hc.add hm (.iface tFN (pt f))).1 h1).tr y
  · exact ((hc.add hm (.iface tFN (pt f))).2 h1).tr y

/-- blocks that are not worked on -/
def PX (p : Nat → Prop) (tb ps pa : Nat) (v : Value) (d : Nat) : Prop := p d ∧ d ≠ tb ∧ d ≠ ps ∧ d ≠ pa ∧ v.ownBlock ≠ some d
theorem PX.tr {K : Cfg} {w w' : World} {p : Nat → Prop} {tb ps pa : Nat} {v v' : Value} (hK : AKept w w' ps pa v) (hg : ∀ g, v'.ownBlock = some g → v.ownBlock = some g ∨ w.heap.size ≤ g) : Tr K w w' (PX p tb ps pa v) (PX p tb ps pa v') := ⟨fun b cs t ⟨h1, h2, h3, h4, h5⟩ _ h => by
  have hlt := h.lt
  exact ⟨⟨h1, h2, h3, h4, fun e => (hg b e).elim h5 fun h => by omega⟩, cs, ⟨hK b _ h.at_ h3 h4 h5 fun es c e => by cases e⟩, .rfl' ..⟩⟩
theorem AKept.ifn {w w' : World} {ps pa c base : Nat} {v : Value} {m : Value} {ls : List (List Value)} (hK : AKept w w' ps pa v) (hps : Has w ps (.cells #[m] tOS)) (hpa : Has w pa (.cells #[v] tMS)) (ho : Own w base tFN 1 v ls) (h : IfN w c) : IfN w' c := by
  obtain ⟨ma, mn, mc', ea, en, ec, h⟩ := h
  exact ⟨ma, mn, mc', ea, en, ec, ⟨hK c _ h.at_ (Has.tne h hps (by decide)) (Has.tne h hpa (by decide)) (fun e => Own.ne ho h (by decide) c e rfl) fun es c e => by cases e⟩⟩
end Go.Proofs.YtpiegpegjbmlkaaGreatDoor
namespace Go.Proofs.YtpiegpegjbmlkaaGreatDoor
open Go Go.Kd
set_option maxRecDepth 100000

theorem PkgOK.sta {K : Cfg} {l : Nat} {s : Gs} {w w' : World} (x : Sta K l w w') (h : PkgOK s w) : PkgOK s w' := fun n hn => by
  obtain ⟨c, y, h1, h2⟩ := h n hn
  exact ⟨c, y, h1, Has.sta x h2⟩
/-- what is known of a world in which type sets are computed; f: the declarations are made -/
structure SC (K : Cfg) (s : Gs) (w : World) (f : Bool) : Prop where
  prp : Prp w
  gN : gP < K.N
  pkg : PkgOK s w
  sl : ∀ d, s.sl d → d < w.heap.size
  er : ∃ b, s.er = .iface tNP (pt b)
  sh : ShapedD K.D
  wd : wtD K.D ≤ 16777216
  dc : f = true → DclI K s w K.D.length ∧ ErrI K s w
  kn : ∀ c u, s.g c = some u → isIf u → K.N ≤ c ∧ WfI K.D u ∧ RT K s w s.sl (.iface tPI (pt c)) u
theorem SC.sta {K : Cfg} {l : Nat} {s : Gs} {w w' : World} {f : Bool} (x : Sta K l w w') (hl : l ≤ 3) (h : SC K s w f) : SC K s w' f :=
  ⟨h.prp.sta x h.gN, h.gN, h.pkg.sta x, fun d hd => Nat.lt_of_lt_of_le (h.sl d hd) x.size, h.er, h.sh, h.wd, fun hf => ⟨(h.dc hf).1.sta x hl, (h.dc hf).2.sta x hl⟩, fun c u hc hu => ⟨(h.kn c u hc hu).1, (h.kn c u hc hu).2.1, (h.kn c u hc hu).2.2.sta x hl⟩⟩
theorem norm_if {y : Ty} (h : (norm y).kind = 9) : isIf y := by
  rcases norm_cases y with ⟨h1, h2⟩ | ⟨_, h2, _⟩ | ⟨h1, h2, _⟩
  · rw [h2] at h; exact .inl h
  · omega
  · exact .inr ⟨h1, h2⟩
theorem isIf.norm9 {y : Ty} (h : isIf y) : (norm y).kind = 9 := by
  rcases h with h | ⟨h, h2⟩
  · rw [norm_named (by omega)]; exact h
  · unfold norm; rw [if_pos h, if_neg (by omega), if_neg (by omega), if_pos h2]; rfl
theorem isIf.lit {y : Ty} (h : isIf y) : isLit y := by
  rcases h with h | ⟨h, h2⟩
  · exact ⟨by omega, fun ⟨h3, _⟩ => by omega⟩
  · exact ⟨by omega, fun ⟨_, h4⟩ => by omega⟩
theorem isIf.dyn {y : Ty} (h : isIf y) : dynT y = tPI := by
  unfold dynT
  rcases h with h | ⟨h, h2⟩
  · simp [h]
  · rw [if_pos h, if_pos h2]
theorem isIf.under {D : List De} {y : Ty} (h : isIf y) : underT D y = norm y := under_lit h.lit.1 h.lit.2
theorem IM.congr {D : List De} {t u : Ty} (h : underT D t = underT D u) {ms : List Mt} (hm : IM D t ms) : IM D u ms := by
  cases hm with
  | no _ hk => exact .no u (by rw [← h]; exact hk)
  | yes _ L h9 hL h1 h2 =>
    rw [h] at h9 hL h1 h2 ⊢
    exact .yes u L h9 hL h1 h2
theorem rk_unique {D : List De} {t : Ty} {j k : Nat} (h : rk D t j) (h' : rk D t k) : j = k := by
  rcases Nat.lt_trichotomy j k with h1 | h1 | h1
  · exact absurd h.1 (h'.2 j h1)
  · exact h1
  · exact absurd h'.1 (h.2 k h1)
theorem rk_congr {D : List De} {t u : Ty} (he : underT D t = underT D u) {k : Nat} (h : rk D t k) : rk D u k := ⟨imR_congr he h.1, fun j hj hi => h.2 j hj (imR_congr he.symm hi)⟩
theorem addM_len (out : List Mt) (m : Mt) : out.length ≤ (addM out m).length := by
  rcases addM_spec out m with ⟨h, _⟩ | ⟨h, _⟩ <;> rw [h]
  · exact Nat.le_refl _
  · simp
theorem foldl_len : ∀ (l out : List Mt), out.length ≤ (l.foldl addM out).length
  | [], _ => Nat.le_refl _
  | m :: l, out => Nat.le_trans (addM_len out m) (foldl_len l (addM out m))
theorem mergeE_len : ∀ (L : List (List Mt)) (out : List Mt), out.length ≤ (mergeE L out).length
  | [], _ => Nat.le_refl _
  | l :: L, out => Nat.le_trans (foldl_len l out) (mergeE_len L _)
theorem mergeE_app (L L' : List (List Mt)) (out : List Mt) : mergeE (L ++ L') out = mergeE L' (mergeE L out) := by
  unfold mergeE
  rw [List.foldl_append]
theorem mergeE_take (L : List (List Mt)) (j : Nat) (out : List Mt) : (mergeE (L.take j) out).length ≤ (mergeE L out).length := by
  have h := mergeE_app (L.take j) (L.drop j) out
  rw [List.take_append_drop] at h
  rw [h]
  exact mergeE_len _ _
theorem foldl_take (l out : List Mt) (k : Nat) : ((l.take k).foldl addM out).length ≤ (l.foldl addM out).length := by
  have h := List.foldl_append (f := addM) (b := out) (l := l.take k) (l' := l.drop k)
  rw [List.take_append_drop] at h
  rw [h]
  exact foldl_len _ _

/-! ### The interface's own methods, and those embedded -/
section
variable {K : Cfg} {s : Gs} {w : World} {b : Nat} {t : Ty} {ma : Option Addr} {c mc' : Nat} {ea : Option Addr} {en ec : Nat} {fb : Nat → Nat} {me : Nat → Ty} {sv ev : Nat → Value}
def exM (t : Ty) (c : Nat) (me : Nat → Ty) : List Mt := (List.range c).map fun i => ⟨(me i).name, (norm t).n, me i⟩
theorem IfD.lit (h : IfD K s w s.sl b t ma c mc' ea en ec fb me sv ev) (hi : isIf t) (hc : 0 < c + en) : t.kind = 9 ∧ norm t = t := by
  rcases hi with h1 | ⟨h1, h2⟩
  · exact ⟨h1, norm_named (by omega)⟩
  · have hn : norm t = anyT := by unfold norm; rw [if_pos h1, if_neg (by omega), if_neg (by omega), if_pos h2]
    have := h.len
    rw [hn] at this
    simp [anyT, Ty.elems] at this
    omega
theorem IfD.el (h : IfD K s w s.sl b t ma c mc' ea en ec fb me sv ev) {i : Nat} (hi : i < c) : ∃ j, j < c ∧ (norm t).elems[j]? = some (me i) := by
  have h1 : me i ∈ (norm t).elems.take c := h.pm.mem_iff.1 (List.mem_map_of_mem (List.mem_range.2 hi))
  obtain ⟨j, hj⟩ := List.getElem?_of_mem h1
  have hlt : j < c := by have := (List.getElem?_eq_some_iff.1 hj).1; rw [List.length_take] at this; omega
  exact ⟨j, hlt, by rw [← List.getElem?_take_of_lt hlt]; exact hj⟩
theorem IfD.mth (h : IfD K s w s.sl b t ma c mc' ea en ec fb me sv ev) (hi : isIf t) (hw : WfI K.D t) {i : Nat} (hic : i < c) : MthO K s w s.sl ⟨(me i).name, (norm t).n, me i⟩ (fb i) := by
  obtain ⟨h9, hn⟩ := h.lit hi (by omega)
  obtain ⟨j, hj, he⟩ := h.el hic
  obtain ⟨pk, k1, k2, k3⟩ := h.fn i hic
  obtain ⟨⟨d, v, _, hsh⟩, hwt, hlg⟩ := hw
  have hcnt := h.cnt
  have hs := hsh.shape
  have h0 := hs.n0 (by rw [h9]; simp [limitN])
  have h1 := hs.n1 (by rw [h9]; simp [limitN])
  rw [h9] at h1
  have h1' : t.n < 2 := by simpa [limitN] using h1
  rw [hn] at he hcnt k1 ⊢
  have hu := hlg.here.unq h9
  rw [hcnt, Int.toNat_natCast] at hu
  have hid := (uniq_names hu).1 j (me i) (by rw [List.getElem?_take_of_lt hj]; exact he)
  have hwe := wt_el he
  have hwn := wt_name (me i)
  refine ⟨pk, sv i, k1, k2, k3, h.sg i hic, hs.mth h9 j _ he (by rw [hcnt]; omega), hid, by show t.n = 0 ∨ t.n = 1; omega, ?_⟩
  show (me i).name.size ≤ Big
  omega
theorem IfD.perm (h : IfD K s w s.sl b t ma c mc' ea en ec fb me sv ev) : (exM t c me).Perm (ownM (norm t) c) := by
  have := h.pm.map fun e : Ty => (⟨e.name, (norm t).n, e⟩ : Mt)
  rw [List.map_map] at this
  exact this
theorem IfD.nodup (h : IfD K s w s.sl b t ma c mc' ea en ec fb me sv ev) (hi : isIf t) (hw : WfI K.D t) : ((ownM (norm t) c).map keyM).Nodup := by
  by_cases hc : c = 0
  · subst hc
    unfold ownM
    simp
  obtain ⟨h9, hn⟩ := h.lit hi (by omega)
  obtain ⟨_, _, hlg⟩ := hw
  have hcnt := h.cnt
  rw [hn] at hcnt ⊢
  have hu := hlg.here.unq h9
  rw [hcnt, Int.toNat_natCast] at hu
  exact own_nodup hu fun i e he hic => hlg.here.mth h9 i e he (by rw [hcnt]; omega)
/-- the embedded types' methods -/
theorem IfD.emb (h : IfD K s w s.sl b t ma c mc' ea en ec fb me sv ev) (hi : isIf t) (hw : WfI K.D t) : ∃ Ls : List (List Mt), Ls.length = en ∧ (∀ (j : Nat) e l, (norm t).elems[c + j]? = some e → Ls[j]? = some l → IM K.D e l) ∧ (∀ (j : Nat) e, (norm t).elems[c + j]? = some e → (underT K.D e).kind = 9) ∧ IM K.D t (mergeE Ls (ownM (norm t) c)) := by
  have hu := hi.under (D := K.D)
  have hlen := h.len
  have hcnt := h.cnt
  by_cases he : en = 0
  · refine ⟨[], he.symm, fun j e l _ hl => by simp at hl, fun j e hj => ?_, IM.of hu h.k9 hcnt (by omega) [] (by simp; omega) fun j e l _ hl => by simp at hl⟩
    have := (List.getElem?_eq_some_iff.1 hj).1
    omega
  obtain ⟨h9, hn⟩ := h.lit hi (by omega)
  obtain ⟨_, _, hlg⟩ := hw
  obtain ⟨all, hco⟩ := hlg.here.con h9
  rw [hn] at hu hlen hcnt ⊢
  have him := hco.im
  cases him with
  | no _ hk => rw [hu] at hk; exact absurd h9 hk
  | yes _ L k9 kL k1 k2 =>
    rw [hu] at k9 kL k1 k2
    have key : ∀ (j : Nat) e l, t.elems[c + j]? = some e → (L.drop c)[j]? = some l → IM K.D e l := fun j e l he hl => by
      rw [List.getElem?_drop] at hl
      exact k2 (c + j) e l he hl (by rw [hcnt]; omega)
    exact ⟨L.drop c, by rw [List.length_drop]; omega, key, fun j e he => hco.ifc (c + j) e he (by rw [hcnt]; omega), IM.of hu h9 hcnt (by omega) (L.drop c) (by rw [List.length_drop]; omega) key⟩
theorem IfD.rdy (h : IfD K s w s.sl b t ma c mc' ea en ec fb me sv ev) (hi : isIf t) (hw : WfI K.D t) {j : Nat} {e : Ty} (he : (norm t).elems[c + j]? = some e) : Rdy K K.D.length e := fun hk => by
  have hlt := (List.getElem?_eq_some_iff.1 he).1
  have hlen := h.len
  obtain ⟨h9, hn⟩ := h.lit hi (by omega)
  rw [hn] at he
  obtain ⟨⟨d, v, hd, hsh⟩, _⟩ := hw
  have hs := (hsh.el _ e he).shape
  have h0 := hs.n0 (by rw [hk]; simp [limitN])
  have h1 := hs.n1 (by rw [hk]; simp [limitN])
  rw [hk] at h1
  have h2 : e.n < K.D.length := by simpa [limitN] using h1
  exact ⟨h0, by omega, by omega⟩
end

/-- the state while an interface's type set is computed -/
structure LS (K : Cfg) (s : Gs) (w : World) (p : Nat → Prop) (b tb ps pa pp rr : Nat) (ic : Array Value) (t0 : Value) (out : List Mt) (v : Value) (wk : World) : Prop where
  cpl : Cpl K w wk
  hb : Has wk b (.cells ic tIF)
  ht : Has wk tb (.cells #[.bool false, .slice none 0 0, t0, .bool false] tTS)
  ex : ∃ l fbs, AM wk ps ps pa pp rr l v fbs ∧ Col K s wk out fbs l
  ifs : ∀ c u, s.g c = some u → isIf u → c ≠ b → IfS K s w p c u → IfS K s wk (PX p tb ps pa v) c u
  sz : pp < wk.heap.size
theorem LS.step {K : Cfg} {s : Gs} {w wk w' : World} {p : Nat → Prop} {b tb ps pa pp rr : Nat} {ic : Array Value} {t0 : Value} {out out' : List Mt} {v v' : Value} {l' : List (List UInt8 × Value)} {fbs' : List Nat} (h : LS K s w p b tb ps pa pp rr ic t0 out v wk)
    (bl : RowKit.Below ps wk w') (hA : AM w' ps ps pa pp rr l' v' fbs') (hC : Col K s w' out' fbs' l') (hK : AKept wk w' ps pa v) (hg : ∀ g, v'.ownBlock = some g → v.ownBlock = some g ∨ wk.heap.size ≤ g)
    (h1 : w.heap.size ≤ ps) (h2 : b < ps) (h3 : tb < ps) (hsl : ∀ d, s.sl d → d < ps) : LS K s w p b tb ps pa pp rr ic t0 out' v' w' := by
  obtain ⟨l, fbs, hA0, _⟩ := h.ex
  obtain ⟨m, hps⟩ := hA0.os.hasps
  refine ⟨h.cpl.bel (bl.mono h1), Has.bel bl h2 h.hb, Has.bel bl h3 h.ht, ⟨l', fbs', hA, hC⟩, fun c u hc hu hne hs => ?_, Nat.lt_of_lt_of_le h.sz bl.size⟩
  rcases h.ifs c u hc hu hne hs with k | k
  · exact .inl (k.tr (PX.tr hK hg) (.sameM (fun d hd => bl.block d (hsl d hd)) fun _ h => h))
  · exact .inr (hK.ifn hps hA0.al hA0.ow k)
theorem Cpl.done {K : Cfg} {w w' : World} (x : Cpl K w w') {b tb : Nat} {ma : Option Addr} {mn mc' : Nat} {ea : Option Addr} {en ec : Nat} (h : Has w b (.cells (ifc ma mn mc' ea en ec (pt tb)) tIF)) : Has w' b (.cells (ifc ma mn mc' ea en ec (pt tb)) tIF) := by
  obtain ⟨cs', h1, h2⟩ := x.ifs _ _ h.at_
  obtain ⟨ts', rfl⟩ := h2.ifb
  have h6 := h2.cell 6 (by
    unfold mc
    simp only [show ¬ tIF = tTY from by decide, if_false, if_true]
    rfl)
  have : ts' = pt tb := Option.some.inj h6
  subst this
  exact ⟨h1⟩
theorem Cpl.cells {K : Cfg} {w w' : World} (x : Cpl K w w') {b : Nat} {cs : Array Value} {t : TypeId} (ht : t ≠ tIF) (h : Has w b (.cells cs t)) : Has w' b (.cells cs t) := ⟨x.blk _ _ h.at_ fun cs' e => by
  cases e
  exact ht rfl⟩
/-- .. after another one's has been computed -/
theorem LS.call {K : Cfg} {s : Gs} {w wk w' : World} {p : Nat → Prop} {b tb ps pa pp rr : Nat} {ma : Option Addr} {mn mc' : Nat} {ea : Option Addr} {en ec : Nat} {t0 : Value} {out : List Mt} {v : Value} (h : LS K s w p b tb ps pa pp rr (ifc ma mn mc' ea en ec (pt tb)) t0 out v wk)
    (x : Cpl K wk w') (hp : ∀ c u, s.g c = some u → isIf u → IfS K s wk (PX p tb ps pa v) c u → IfS K s w' (PX p tb ps pa v) c u) : LS K s w p b tb ps pa pp rr (ifc ma mn mc' ea en ec (pt tb)) t0 out v w' := by
  obtain ⟨l, fbs, hA, hC⟩ := h.ex
  exact ⟨h.cpl.trans x, x.done h.hb, x.cells (by decide) h.ht, ⟨l, fbs, hA.kept fun d o h ho => x.blk d o h fun cs e => (ho cs _ e).1 rfl, hC.tr (.sta x.sta (by omega) _)⟩, fun c u hc hu hne hs => hp c u hc hu (h.ifs c u hc hu hne hs), Nat.lt_of_lt_of_le h.sz x.size⟩
theorem IfS.ext {K : Cfg} {s : Gs} {w w' : World} {p : Nat → Prop} (x : Ext w w') {c : Nat} {u : Ty} (h : IfS K s w p c u) : IfS K s w' p c u :=
  h.imp (fun h => h.tr (.sta (l := 0) (.of_ext x) (by omega) _) (.sta (l := 0) (.of_ext x) (by omega) _)) fun h => h.ext x
theorem LS.ext {K : Cfg} {s : Gs} {w wk w' : World} {p : Nat → Prop} {b tb ps pa pp rr : Nat} {ma : Option Addr} {mn mc' : Nat} {ea : Option Addr} {en ec : Nat} {t0 : Value} {out : List Mt} {v : Value} (h : LS K s w p b tb ps pa pp rr (ifc ma mn mc' ea en ec (pt tb)) t0 out v wk)
    (x : Ext wk w') : LS K s w p b tb ps pa pp rr (ifc ma mn mc' ea en ec (pt tb)) t0 out v w' := h.call (.of_ext x) fun _ _ _ _ h => h.ext x
/-- a type set's block -/
structure TB (K : Cfg) (s : Gs) (w : World) (q : Nat → Prop) (tb : Nat) (a : Option Addr) (n c : Nat) (v : Value) (ms : List Mt) (fb : Nat → Nat) : Prop where
  ptb : q tb
  ht : Has w tb (.cells #[.bool false, .slice a n c, v, .bool false] tTS)
  all : AllQ w q v
  row : RowQ w q tFN a n fb
  len : ms.length = n
  mth : ∀ (i : Nat) m, ms[i]? = some m → MthO K s w s.sl m (fb i)
theorem TB.tr {K : Cfg} {s : Gs} {w w' : World} {q q' : Nat → Prop} (x : Tr K w w' q q') (y : Tr K w w' s.sl s.sl) {tb : Nat} {a : Option Addr} {n c : Nat} {v : Value} {ms : List Mt} {fb : Nat → Nat} (h : TB K s w q tb a n c v ms fb) : TB K s w' q' tb a n c v ms fb := by
  obtain ⟨k3, k4⟩ := x.imm h.ptb h.ht
  exact ⟨k3, k4, h.all.tr x, h.row.tr x, h.len, fun i m hm => (h.mth i m hm).tr y⟩
theorem TSo.tb {K : Cfg} {s : Gs} {w : World} {q : Nat → Prop} {b tb : Nat} {t : Ty} {ms : List Mt} {fb : Nat → Nat} (h : TSo K s w q b tb t ms fb) : ∃ a c v, TB K s w q tb a ms.length c v ms fb := by
  obtain ⟨a, c, v, h1, h2, h3⟩ := h.tsb
  exact ⟨a, c, v, h.ptb, h1, h2, h3, rfl, h.mth⟩
/-- the type set is there -/
theorem LS.done {K : Cfg} {s : Gs} {w wk wz : World} {p : Nat → Prop} {b tb ps pa pp rr : Nat} {ma : Option Addr} {mn mc' : Nat} {ea : Option Addr} {en ec : Nat} {t0 : Value} {out : List Mt} {v va : Value} {t : Ty} {ms msF : List Mt} {a : Option Addr} {c : Nat} {fb : Nat → Nat}
    (h : LS K s w p b tb ps pa pp rr (ifc ma mn mc' ea en ec (pt tb)) t0 out v wk) (hgb : s.g b = some t) (hpb : p b) (hptb : p tb) (hp : ∀ d, w.heap.size ≤ d → p d) (h1 : w.heap.size ≤ tb) (h2 : tb < ps) (hbw : b < w.heap.size) (hsl : ∀ d, s.sl d → d < w.heap.size)
    (hos : wz.os = wk.os ∧ wz.tape = wk.tape ∧ wz.output = wk.output ∧ wk.heap.size ≤ wz.heap.size) (hk : ∀ (d : Nat) (o : Obj), wk.heap[d]? = some o → d ≠ tb → v.ownBlock ≠ some d → wz.heap[d]? = some o)
    (htz : Has wz tb (.cells #[.bool false, .slice a ms.length c, va, .bool false] tTS)) (hrow : ∀ i, i < ms.length → ∃ g cs, a = some ⟨g, 0, none⟩ ∧ ps ≤ g ∧ Has wz g (.cells cs tFN) ∧ cs[i]? = some (pt (fb i))) (hpm : ms.Perm out) (hs : Srtd ms)
    (hmth : ∀ (i : Nat) m, ms[i]? = some m → MthO K s wk s.sl m (fb i)) (hva : AllQ wk (PX p tb ps pa v) va) (hout : out.Perm msF) (him : IM K.D t msF) :
    Cpl K w wz ∧ ∃ tb' ms' fb', pt tb = pt tb' ∧ TSo K s wz p b tb' t ms' fb' ∧ ∀ c u, s.g c = some u → isIf u → IfS K s w p c u → IfS K s wz p c u := by
  obtain ⟨l, fbs, hA, hC⟩ := h.ex
  have hown : ∀ d, d < ps → v.ownBlock ≠ some d := fun d hd e => by have := (hA.ow.lt d e).1; omega
  have hwk := h.cpl.size
  have bel : RowKit.Below w.heap.size wk wz := ⟨hos.1, hos.2.1, hos.2.2.1, hos.2.2.2, fun d hd => by
    have ho := Array.getElem?_eq_getElem (show d < wk.heap.size by omega)
    rw [ho]
    exact hk d _ ho (by omega) (hown d (by omega))⟩
  have x : Tr K wk wz (PX p tb ps pa v) p := ⟨fun d cs t' ⟨q1, q2, q3, q4, q5⟩ _ hd => ⟨q1, cs, ⟨hk d _ hd.at_ q2 q5⟩, .rfl' ..⟩⟩
  have y : Tr K wk wz s.sl s.sl := .sameM (fun d hd => bel.block d (hsl d hd)) fun _ h => h
  have hbz := Has.bel bel hbw h.hb
  have hts : TSo K s wz p b tb t ms fb := ⟨hpb, hptb, ⟨_, _, _, _, _, _, hbz⟩, ⟨msF, him, hpm.trans hout⟩, hs, ⟨a, c, va, htz, hva.tr x, fun i hi => by
    obtain ⟨g, cs, k1, k2, k3, k4⟩ := hrow i hi
    exact ⟨g, cs, k1, hp g (by omega), k3, k4⟩⟩, fun i m hm => (hmth i m hm).tr y⟩
  refine ⟨h.cpl.bel bel, tb, ms, fb, rfl, hts, fun c' u hc hu hs' => ?_⟩
  by_cases hcb : c' = b
  · subst hcb
    rw [hgb] at hc
    cases hc
    exact .inl ⟨tb, ms, fb, hts⟩
  · rcases h.ifs c' u hc hu hcb hs' with k | k
    · exact .inl (k.tr x y)
    · exact .inr (k.same fun cs hcs => (hk c' _ hcs.at_ (Has.tne hcs h.ht (by decide)) fun e => Own.ne hA.ow hcs (by decide) c' e rfl).trans hcs.at_.symm)
theorem c_allTermlist' (w : World) : Calls Tryz.prog 148 #[] w (Ret fun r w' => AllQ w' (fun d => w.heap.size ≤ d) r ∧ Ext w w') := by
  refine W.enter (args := []) Tryz.func148 rfl Tryz.ntmps148 rfl rfl ?_
  refine zst ?_
  refine WU.stp rfl rfl rfl stp_alloc ?_
  rintro _ w1 ⟨b1, rfl, n1⟩
  refine zst ?_
  refine WU.stp rfl rfl rfl (stp_buildSlice rfl rfl rfl rfl rfl) ?_
  rintro _ w2 ⟨b2, rfl, n2⟩
  refine zst ?_
  have h1 := n1.num
  have h2 := n2.num
  have h3 := n1.ext.size
  refine fin1 (.inl rfl) rfl rfl ⟨⟨_, _, b1, rfl, fun i hi => ⟨b2, _, rfl, by omega, n2.has, ?_⟩, by omega, n1.has.ext' n2.ext⟩, n1.ext.trans n2.ext⟩
  obtain rfl : i = 0 := by omega
  rfl
/-- the contract: the type set of block b is there afterwards -/
def CitsC (K : Cfg) (s : Gs) (f : Bool) (k b : Nat) (t : Ty) : Prop := ∀ (w : World) (p : Nat → Prop) (pos : Int), SC K s w f → (∀ d, w.heap.size ≤ d → p d) → (∀ d, s.sl d → p d) → (∀ c u j, s.g c = some u → isIf u → rk K.D u j → j ≤ k → IfS K s w p c u) →
  Calls Tryz.prog 109 #[.pointer none, .int .i64 pos, pt b] w (Ret fun r w' => Cpl K w w' ∧ ∃ tb ms fb, r = pt tb ∧ TSo K s w' p b tb t ms fb ∧ ∀ c u, s.g c = some u → isIf u → IfS K s w p c u → IfS K s w' p c u)
theorem c_cits_done (w : World) (pos : Int) (b tb : Nat) (h : IfT w b (pt tb)) : Calls Tryz.prog 109 #[.pointer none, .int .i64 pos, pt b] w (Ret fun r w' => r = pt tb ∧ w = w') := by
  obtain ⟨ma, mn, mc', ea, en, ec, h⟩ := h
  refine W.enter (args := [.pointer none, .int .i64 pos, pt b]) Tryz.func109 rfl Tryz.ntmps109 rfl rfl ?_
  refine zst ?_
  exact fin1 (.inl rfl) rfl rfl ⟨rfl, rfl⟩
end Go.Proofs.YtpiegpegjbmlkaaGreatDoor
namespace Go.Proofs.YtpiegpegjbmlkaaGreatDoor
open Go Go.Kd
set_option maxRecDepth 100000

theorem map_getD (fbs : List Nat) : (fbs.map fun b => [pt b]) = (List.range fbs.length).map fun i => [pt (fbs.getD i 0)] := by
  apply List.ext_getElem?
  intro i
  rw [List.getElem?_map, List.getElem?_map]
  by_cases hi : i < fbs.length
  · rw [List.getElem?_range hi, List.getElem?_eq_getElem hi]
    simp [List.getD, hi]
  · rw [List.getElem?_eq_none (by omega), List.getElem?_eq_none (by simp; omega)]
    rfl
def mt0 : Mt := ⟨eB, 0, anyT⟩
/-- the methods that were collected, sorted -/
theorem c_sortC {K : Cfg} {s : Gs} (base ps pa pp rr : Nat) (l : List (List UInt8 × Value)) (v : Value) (fbs : List Nat) (out : List Mt) (w : World) (h : AM w base ps pa pp rr l v fbs) (hc : Col K s w out fbs l) (hp : Prp w) (hpg : PkgOK s w) (hg : gP < base) (hlen : out.length ≤ 1073741824) :
    Calls Tryz.prog 152 #[v] w (Ret fun _ w' => RowKit.Below base w w' ∧ (∀ d o, w.heap[d]? = some o → v.ownBlock ≠ some d → w'.heap[d]? = some o) ∧ ∃ (a : Option Addr) (c : Nat) (ms : List Mt) (fb : Nat → Nat), v = .slice a out.length c ∧ ms.Perm out ∧ Srtd ms ∧
      (∀ i, i < out.length → ∃ g cs, a = some ⟨g, 0, none⟩ ∧ base ≤ g ∧ Has w' g (.cells cs tFN) ∧ cs[i]? = some (pt (fb i))) ∧ ∀ (i : Nat) m, ms[i]? = some m → MthO K s w s.sl m (fb i)) := by
  have how := h.ow
  rw [map_getD] at how
  obtain ⟨a, c, rfl, hr⟩ := Own.row1 how
  rw [hc.len] at *
  have hel : ∀ i, i < out.length → out[i]? = some (out.getD i mt0) := fun i hi => by rw [List.getD_eq_getElem?_getD, List.getElem?_eq_getElem hi]; rfl
  have hfl : ∀ i, i < out.length → fbs[i]? = some (fbs.getD i 0) := fun i hi => by rw [List.getD_eq_getElem?_getD, List.getElem?_eq_getElem (by rw [hc.len]; exact hi)]; rfl
  have hm : ∀ i, i < out.length → MthO K s w s.sl (out.getD i mt0) (fbs.getD i 0) := fun i hi => hc.ms i _ _ (hel i hi) (hfl i hi)
  obtain ⟨f, hf⟩ := Classical.axiomOfChoice (r := fun (i : Nat) (y : Value × Value) => i < out.length → FuncV w (fbs.getD i 0) y.1 (out.getD i mt0).name y.2 ∧ PkV w (out.getD i mt0).name y.1 (pth (out.getD i mt0).pkg)) fun i => by
    by_cases hi : i < out.length
    · obtain ⟨pk, sv, k1, k2⟩ := (hm i hi).pkv hpg
      exact ⟨(pk, sv), fun _ => ⟨k1, k2⟩⟩
    · exact ⟨(.nilIface, .nilIface), fun h => absurd h hi⟩
  have hfr : FRow w out.length (fun i => fbs.getD i 0) (fun i => (f i).1) (fun i => (out.getD i mt0).name) (fun i => pth (out.getD i mt0).pkg) (fun i => (f i).2) := ⟨fun i hi => (hf i hi).1, fun i hi => (hf i hi).2, fun i hi => (hm i hi).id.1.asc, fun i j hi hj he => by
    obtain ⟨i1, i2, _⟩ := (hm i hi).id
    obtain ⟨j1, j2, _⟩ := (hm j hj).id
    have hk := (idS_key i1 j1 i2 j2).1 he
    have hil : i < (out.map keyM).length := by simpa using hi
    have hjl : j < (out.map keyM).length := by simpa using hj
    refine (List.getElem_inj (h₀ := hil) (h₁ := hjl) hc.nd).1 ?_
    have a1 := hel i hi
    have a2 := hel j hj
    rw [List.getElem?_eq_getElem hi] at a1
    rw [List.getElem?_eq_getElem hj] at a2
    rw [List.getElem_map, List.getElem_map, Option.some.inj a1, Option.some.inj a2]
    exact hk⟩
  have hown : ∀ a', a = some a' → (Value.slice a out.length c).ownBlock = some a'.block := fun a' ha => by rw [ha]; rfl
  refine (c_sortMethods a out.length c (fun i => fbs.getD i 0) (fun i => (f i).1) (fun i => (out.getD i mt0).name) (fun i => pth (out.getD i mt0).pkg) (fun i => (f i).2) w hp (fun i hi => by
    obtain ⟨g, cs, q1, _, _, q3, q4⟩ := hr i hi
    exact ⟨g, cs, q1, q3, q4⟩) hfr hlen (fun a' ha e => by
    have := (how.lt _ (hown a' ha)).1
    omega)).mono ?_
  rintro e w' ⟨r, he, hs, σ, hσ, hrow, hsd⟩
  have hσlen : σ.length = out.length := by rw [hσ.length_eq, List.length_range]
  have hσlt : ∀ i, i < out.length → σ.getD i 0 < out.length := fun i hi => by
    rw [List.getD_eq_getElem?_getD, List.getElem?_eq_getElem (by omega)]
    exact List.mem_range.1 (hσ.mem_iff.1 (List.getElem_mem (by omega)))
  have hmsl : ∀ i m, (σ.map fun j => out.getD j mt0)[i]? = some m → i < out.length ∧ m = out.getD (σ.getD i 0) mt0 := fun i m hi => by
    have hlt : i < σ.length := by have := (List.getElem?_eq_some_iff.1 hi).1; simpa using this
    rw [List.getElem?_map, List.getElem?_eq_getElem hlt] at hi
    refine ⟨by omega, ?_⟩
    rw [List.getD_eq_getElem?_getD (l := σ), List.getElem?_eq_getElem hlt]
    exact (Option.some.inj hi).symm
  refine ⟨r, he, ⟨hs.os, hs.tape, hs.output, hs.size, fun d hd => ?_⟩, fun d o ho hne => (hs.oth d (Array.getElem?_eq_some_iff.1 ho).1 fun a' ha e => hne (by rw [hown a' ha, e])).trans ho, a, c, σ.map fun j => out.getD j mt0, fun i => fbs.getD (σ.getD i 0) 0, rfl, ?_, ?_, fun i hi => ?_, fun i m hi => ?_⟩
  · by_cases hlt : d < w.heap.size
    · exact hs.oth d hlt fun a' ha e => by have := (how.lt _ (hown a' ha)).1; omega
    · have hb : base ≤ w.heap.size := by
        have := h.al.lt
        have := h.ba
        omega
      omega
  · have h1 := hσ.map fun j => out.getD j mt0
    have h2 : (List.range out.length).map (fun j => out.getD j mt0) = out := by
      apply List.ext_getElem?
      intro i
      rw [List.getElem?_map]
      by_cases hi : i < out.length
      · rw [List.getElem?_range hi, hel i hi]; rfl
      · rw [List.getElem?_eq_none (by simpa using hi), List.getElem?_eq_none (by omega)]; rfl
    rw [h2] at h1
    exact h1
  · intro i j m m' hij hi hj
    obtain ⟨_, rfl⟩ := hmsl i m hi
    obtain ⟨hjl, rfl⟩ := hmsl j m' hj
    exact hsd i j hij hjl
  · obtain ⟨g, cs, q1, q2, q3⟩ := hrow i hi
    refine ⟨g, cs, q1, ?_, q2, q3⟩
    have := (how.lt _ (hown _ q1)).1
    exact this
  · obtain ⟨hil, rfl⟩ := hmsl i m hi
    exact hm _ (hσlt i hil)

set_option maxHeartbeats 8000000 in
theorem cits_walk (K : Cfg) (s : Gs) (f : Bool) (k b : Nat) (t : Ty) (hgb : s.g b = some t) (hif : isIf t) (hrk : rk K.D t k) (hfe : f = true ∨ (norm t).count = (norm t).elems.length)
    (ih : ∀ j, j < k → ∀ c u, s.g c = some u → isIf u → rk K.D u j → CitsC K s true j c u) (w : World) (p : Nat → Prop) (pos : Int) (hsc : SC K s w f) (hp : ∀ d, w.heap.size ≤ d → p d) (hps : ∀ d, s.sl d → p d) (hI : ∀ c u j, s.g c = some u → isIf u → rk K.D u j → j ≤ k → IfS K s w p c u) (hn : IfN w b) :
    Calls Tryz.prog 109 #[.pointer none, .int .i64 pos, pt b] w (Ret fun r w' => Cpl K w w' ∧ ∃ tb ms fb, r = pt tb ∧ TSo K s w' p b tb t ms fb ∧ ∀ c u, s.g c = some u → isIf u → IfS K s w p c u → IfS K s w' p c u) := by
  obtain ⟨hNb, hwf, hrt⟩ := hsc.kn b t hgb hif
  obtain ⟨ma, c, mc', ea, en, ec, fb, me, sv, ev, hd⟩ := hrt.ifd hif (fun T v hv e => by
    obtain ⟨b', he⟩ := hsc.er
    rw [he] at hv
    cases hv
    exact absurd e (by decide)) (fun h9 => by
    obtain ⟨⟨d, v, _, hsh⟩, _⟩ := hwf
    exact ⟨hsh.shape.c0 (.inr h9), hsh.shape.c1 (.inr h9)⟩)
  obtain ⟨Ls, hLl, hLi, hL9, hIM⟩ := hd.emb hif hwf
  have hlenF : (mergeE Ls (ownM (norm t) c)).length ≤ 1073741824 := by
    obtain ⟨⟨d, v, hdl, hsh⟩, hwt, _⟩ := hwf
    have := IM_len hsc.sh hIM hdl hsh
    have := hsc.wd
    replace hwt : wt t ≤ 268435456 := hwt
    omega
  have hperm0 : ((exM t c me).foldl addM []).Perm (ownM (norm t) c) := by
    have h1 := addM_perm (out := []) (out' := []) (hd.nodup hif hwf) hd.perm (.refl _)
    rw [addM_fold (hd.nodup hif hwf), List.nil_append, List.filter_eq_self.2 (fun m _ => by simp)] at h1
    exact h1
  have hb0 : Has w b (.cells (ifc ma c mc' ea en ec (.pointer none)) tIF) := by
    obtain ⟨ts, h1⟩ := hd.ib
    obtain ⟨a1, a2, a3, a4, a5, a6, h2⟩ := hn
    have h3 := h1.at_.symm.trans h2.at_
    simp only [Option.some.injEq, Obj.cells.injEq] at h3
    have h4 := congrArg (fun a => a.toList[6]?) h3.1
    simp at h4
    subst h4
    exact h1
  have hltb := hb0.lt
  have hlen := hd.len
  have hen : en ≤ 1073741824 := by
    by_cases h0 : 0 < c + en
    · obtain ⟨h9, hn'⟩ := hd.lit hif h0
      have h1 := wt_len t
      obtain ⟨_, hwt, _⟩ := hwf
      replace hwt : wt t ≤ 268435456 := hwt
      rw [hn'] at hlen
      omega
    · omega
  have hmn : c ≤ 1073741824 := by
    have : (exM t c me).length = c := by simp [exM]
    have h2 := hd.perm.length_eq
    have h3 := mergeE_len Ls (ownM (norm t) c)
    omega
  refine W.enter (args := [.pointer none, .int .i64 pos, pt b]) Tryz.func109 rfl Tryz.ntmps109 rfl rfl ?_
  refine zst ?_
  refine WU.stp rfl rfl rfl (stp_call rfl (c_allTermlist w)) ?_
  rintro v0 w1 ⟨hv0, x1⟩
  obtain ⟨g0, c0, t0, cs0, rfl, _⟩ := hv0.open
  have hb1 := hb0.ext' x1
  refine zst ?_
  refine WU.stp rfl rfl rfl (by first | exact stp_box rfl rfl | exact stp_box1 rfl rfl) ?_
  rintro _ w2 ⟨tb, rfl, n2⟩
  have hb2 : Has w2 b (.cells (ifc ma c mc' ea en ec (.pointer none)) tIF) := hb1.ext' n2.ext
  refine zst ?_
  refine WU.stp0 rfl rfl (stp_store_cell rfl rfl rfl rfl) ?_
  rintro _ w3 u3
  have hb3 : Has w3 b (.cells (ifc ma c mc' ea en ec (pt tb)) tIF) := u3.has
  have e2 := n2.num
  have s1 := x1.size
  have htb : tb ≠ b := by omega
  have ht3 : Has w3 tb (.cells #[.bool false, .slice none 0 0, .slice (some ⟨g0, 0, none⟩) 1 c0, .bool false] tTS) := ⟨(u3.oth tb htb).trans n2.has.at_⟩
  have cp3 : Cpl K w w3 := (Cpl.of_ext (x1.trans n2.ext)).trans (Cpl.put hb2 u3 hNb)
  have s3 := u3.size
  have s2 := n2.size
  refine zst ?_
  refine WU.stp rfl rfl rfl stp_makeMap ?_
  rintro _ w4 ⟨m4, rfl, n4⟩
  refine zst ?_
  refine WU.stp rfl rfl rfl stp_alloc ?_
  rintro _ w5 ⟨ps, rfl, n5⟩
  refine zst ?_
  refine WU.stp rfl rfl rfl stp_alloc ?_
  rintro _ w6 ⟨pa, rfl, n6⟩
  refine zst ?_
  refine WU.stp rfl rfl rfl stp_makeMap ?_
  rintro _ w7 ⟨rr, rfl, n7⟩
  refine zst ?_
  refine WU.stp rfl rfl rfl stp_alloc ?_
  rintro _ w8 ⟨pp, rfl, n8⟩
  have ipp := n8.has
  refine zst ?_
  refine WU.stp0 rfl rfl (stp_store_cell rfl rfl rfl rfl) ?_
  rintro _ w9 u9
  have e5 := n5.num
  have e6 := n6.num
  have e7 := n7.num
  have e8 := n8.num
  have s4 := n4.size
  have s5 := n5.size
  have s6 := n6.size
  have s7 := n7.size
  have s8 := n8.size
  have s9 := u9.size
  have x39 : Ext w3 w9 := ((((n4.ext.trans n5.ext).trans n6.ext).trans n7.ext).trans (u9.ofNew n8).ext)
  have hps9 : Has w9 ps (.cells #[.map none] tOS) := ⟨(u9.oth ps (by omega)).trans ((((n5.has : Has w5 ps (.cells #[.map none] tOS)).ext' n6.ext).ext' n7.ext).ext' n8.ext).at_⟩
  have hpa9 : Has w9 pa (.cells #[.slice none 0 0] tMS) := ⟨(u9.oth pa (by omega)).trans (((n6.has : Has w6 pa (.cells #[.slice none 0 0] tMS)).ext' n7.ext).ext' n8.ext).at_⟩
  have hrr9 : Has w9 rr (.map #[] 0) := ⟨(u9.oth rr (by omega)).trans ((n7.has : Has w7 rr (.map #[] 0)).ext' n8.ext).at_⟩
  have hslp : ∀ d, s.sl d → d < w.heap.size := hsc.sl
  have hifs3 : ∀ c u, s.g c = some u → isIf u → c ≠ b → IfS K s w p c u → IfS K s w3 (PX p tb ps pa (.slice none 0 0)) c u := fun c' u hc hu hne hs => by
    rcases hs with h | h
    · exact .inl (h.tr (.staM cp3.sta (by omega) fun d hd hpd => ⟨hpd, by omega, by omega, by omega, fun e => by cases e⟩) (.sta cp3.sta (by omega) _))
    · exact .inr (((h.ext x1).ext n2.ext).same fun _ _ => u3.oth c' hne)
  have hls9 : LS K s w p b tb ps pa pp rr (ifc ma c mc' ea en ec (pt tb)) (.slice (some ⟨g0, 0, none⟩) 1 c0) [] (.slice none 0 0) w9 :=
    ⟨cp3.trans (.of_ext x39), hb3.ext' x39, ht3.ext' x39, ⟨[], [], ⟨⟨Nat.le_refl _, fun p hp => (by cases hp), .inl ⟨hps9, rfl⟩⟩, hpa9, by simpa using Own.nil w9 ps tFN 1, u9.has, ⟨#[], 0, hrr9, fun m hm => (by simp at hm)⟩, by omega, by omega⟩, .nil ..⟩, fun c u hc hu hne hs => (hifs3 c u hc hu hne hs).ext x39, by omega⟩
  clear hps9 hpa9 hrr9 ipp hifs3
  have hbt : b < ps := by omega
  have htt : tb < ps := by omega
  have hwp : w.heap.size ≤ ps := by omega
  have hslps : ∀ d, s.sl d → d < ps := fun d hd => by have := hslp d hd; omega
  have hgps : gP < ps := by have := hsc.gN; omega
  have hppps : ps < pp := by omega
  have hpapp : pa < pp := by omega
  have htbp : p tb := hp tb (by omega)
  -- what holds of blocks that are newer
  have hpx : ∀ (wk : World) (v : Value) (l : List (List UInt8 × Value)) (fbs : List Nat), pp < wk.heap.size → AM wk ps ps pa pp rr l v fbs → ∀ d, wk.heap.size ≤ d → PX p tb ps pa v d := fun wk v l fbs hs hA d hdd => ⟨hp d (by omega), by omega, by omega, by omega, fun e => by
    have := (hA.ow.lt d e).2
    omega⟩
  have hpxs : ∀ (wk : World) (v : Value) (l : List (List UInt8 × Value)) (fbs : List Nat), AM wk ps ps pa pp rr l v fbs → ∀ d, s.sl d → PX p tb ps pa v d := fun wk v l fbs hA d hdd => by
    have := hslp d hdd
    exact ⟨hps d hdd, by omega, by omega, by omega, fun e => by
      have := (hA.ow.lt d e).1
      omega⟩
  clear hb0 hb1 hb2 hb3 ht3 cp3 x39 u9 u3 n2 n4 n5 n6 n7 n8 x1 hn
  refine zst ?_
  refine WU.yld rfl rfl rfl (yld_makeFunc rfl) ?_
  have hbk := hls9.hb
  refine zst ?_
  -- the methods that the interface declares
  refine W.loop (σ := Nat × Value) (fun (j, _) => [(57, .int .i64 j), (56, .int .i64 c), (55, .slice ma c mc'), (11, .func (.func 149) #[] #[pt ps, pt pa, pt pp]), (9, pt pa), (2, pt b), (0, .pointer none)])
    (fun (j, v) D' wk => D' = [] ∧ j ≤ c ∧ LS K s w p b tb ps pa pp rr (ifc ma c mc' ea en ec (pt tb)) (.slice (some ⟨g0, 0, none⟩) 1 c0) (((exM t c me).take j).foldl addM []) v wk)
    (fun (j, _) => c - j) (0, .slice none 0 0) ⟨rfl, Nat.zero_le _, hls9⟩ (by exact sub_of ⟨rfl, rfl, rfl, rfl, rfl, rfl, rfl, trivial⟩) ?_
  clear hls9 hbk
  rintro ⟨j, v⟩ D' wk ⟨rfl, hj, hls⟩
  obtain ⟨l, fbs, hA, hC⟩ := hls.ex
  have hsck : SC K s wk f := hsc.sta hls.cpl.sta (by omega)
  have hszk := hls.sz
  refine zst ?_
  by_cases hlt : j < c
  · rw [show decide ((j : Int) < (c : Int)) = true by simpa using hlt]
    have hrow := hd.fr.row.sta hls.cpl.sta
    obtain ⟨rb, rfl, hrc⟩ := hrow.cell hlt
    have hm0 := hd.mth hif hwf hlt
    have hm : MthO K s wk s.sl ⟨(me j).name, (norm t).n, me j⟩ (fb j) := hm0.tr (.sta hls.cpl.sta (by omega) _)
    obtain ⟨pkj, svj, _, _, hfk, _⟩ := hm
    have hfk' : Has wk (fb j) (.cells #[.int .i64 0, pkj, .string (me j).name, svj, .bool false, .bool false] tFU) := hfk
    have hm : MthO K s wk s.sl ⟨(me j).name, (norm t).n, me j⟩ (fb j) := hm0.tr (.sta hls.cpl.sta (by omega) _)
    have hex : (exM t c me)[j]? = some ⟨(me j).name, (norm t).n, me j⟩ := by
      unfold exM
      rw [List.getElem?_map, List.getElem?_range hlt]
      rfl
    have htk : (exM t c me).take (j + 1) = (exM t c me).take j ++ [⟨(me j).name, (norm t).n, me j⟩] := by rw [List.take_add_one, hex]; rfl
    have hol : (((exM t c me).take j).foldl addM []).length ≤ 1073741824 := by
      have h1 := foldl_take (exM t c me) [] j
      have h2 := hperm0.length_eq
      have h3 := mergeE_len Ls (ownM (norm t) c)
      omega
    refine zst ?_
    refine WU.yld rfl rfl rfl (yld_load_c rfl hrc) ?_
    refine zst ?_
    refine WU.stp rfl rfl rfl (stp_callc (caps := [pt ps, pt pa, pt pp]) rfl rfl (c_addC K s ps ps pa pp rr (fb j) l v fbs _ ⟨(me j).name, (norm t).n, me j⟩ 0 true wk hA (by omega) hsck.prp hsck.pkg hC hm hslps hol)) ?_
    rintro _ w' ⟨bl, l', v', fbs', hA', hC', hK', hg'⟩
    refine zst ?_
    refine ⟨(j + 1, v'), by show c - (j + 1) < c - j; omega, ⟨rfl, by omega, ?_⟩, sub_of ⟨rfl, rfl, rfl, rfl, rfl, rfl, rfl, trivial⟩⟩
    rw [htk, foldl_snoc]
    exact hls.step bl hA' hC' hK' hg' hwp hbt htt hslps
  rw [show decide ((j : Int) < (c : Int)) = false by simpa using hlt]
  obtain rfl : j = c := by omega
  have hall : (exM t j me).take j = exM t j me := List.take_of_length_le (by simp [exM])
  rw [hall] at hls hC
  refine zst ?_
  refine WU.stp rfl rfl rfl (stp_call rfl (c_allTermlist' wk)) ?_
  rintro at0 w1 ⟨hat, x1⟩
  have hlsa := hls.ext x1
  have hbk := hlsa.hb
  have hat1 : AllQ w1 (PX p tb ps pa v) at0 := by
    obtain ⟨a, cc, tb', q1, q2, q3, q4⟩ := hat
    exact ⟨a, cc, tb', q1, fun i hi => by
      obtain ⟨b', cs, r1, r2, r3⟩ := q2 i hi
      exact ⟨b', cs, r1, hpx wk v l fbs hszk hA _ r2, r3⟩, hpx wk v l fbs hszk hA _ q3, q4⟩
  refine zst ?_
  -- the embedded ones
  refine W.loop (σ := Nat × Value × Value) (fun (i, _, va) => [(76, .int .i64 i), (75, .int .i64 en), (74, .slice ea en ec), (14, va), (15, .bool false), (11, .func (.func 149) #[] #[pt ps, pt pa, pt pp]), (9, pt pa), (2, pt b), (0, .pointer none)])
    (fun (i, v, va) D' wk => D' = [] ∧ i ≤ en ∧ AllQ wk (PX p tb ps pa v) va ∧ ∃ out, LS K s w p b tb ps pa pp rr (ifc ma j mc' ea en ec (pt tb)) (.slice (some ⟨g0, 0, none⟩) 1 c0) out v wk ∧ out.Perm (mergeE (Ls.take i) (ownM (norm t) j)))
    (fun (i, _, _) => en - i) (0, v, at0) ⟨rfl, Nat.zero_le _, hat1, _, hlsa, hperm0⟩ (by exact sub_of ⟨rfl, rfl, rfl, rfl, rfl, rfl, rfl, rfl, rfl, trivial⟩) ?_
  clear hls hC hA hsck hlsa hbk hat1 hat x1 hszk l fbs
  clear v wk w1
  rintro ⟨i, v, va⟩ D' wk ⟨rfl, hi, hva, out, hls, hpm⟩
  obtain ⟨l, fbs, hA, hC⟩ := hls.ex
  have hsck : SC K s wk f := hsc.sta hls.cpl.sta (by omega)
  have hszk := hls.sz
  have hbk := hls.hb
  refine zst ?_
  by_cases hlti : i < en
  · rw [show decide ((i : Int) < (en : Int)) = true by simpa using hlti]
    have hft : f = true := hfe.resolve_right fun h => by have := hd.cnt; omega
    subst hft
    have he := List.getElem?_eq_getElem (show j + i < (norm t).elems.length by omega)
    generalize (norm t).elems[j + i] = e at he
    obtain ⟨dck, erk⟩ := hsck.dc rfl
    have hrte : RT K s wk s.sl (ev i) e := (hd.em i e he).sta hls.cpl.sta (by omega)
    have hrdy := hd.rdy hif hwf he
    obtain ⟨Li, hLie⟩ : ∃ Li, Ls[i]? = some Li := ⟨_, List.getElem?_eq_getElem (show i < Ls.length by omega)⟩
    have hIMe := hLi i e Li he hLie
    have h9e := hL9 i e he
    obtain ⟨eb, ecs, rfl, _, heb, hecs, hev⟩ := (RowT.tr (.sta hls.cpl.sta (by omega) _) hd.er) i hlti
    have hevc := cell_of hecs hev
    refine zst ?_
    refine WU.yld rfl rfl rfl (yld_load_c rfl (by rw [Nat.mul_one, Nat.zero_add]; exact hevc)) ?_
    refine zst ?_
    refine WU.stp rfl rfl rfl (stp_und hsc.sh dck erk hrte hrdy rfl) ?_
    rintro r _ ⟨rfl, y, hry, hly, huy, _⟩
    have hify : isIf y := norm_if (by rw [← huy]; exact h9e)
    obtain ⟨b2, rfl, _, hg2⟩ := hry.lit hly
    rw [hify.dyn]
    refine zst ?_
    refine WU.stp rfl rfl rfl (stp_call rfl (c_isTypeParam hsc.sh dck erk hrte hrdy)) ?_
    rintro _ _ ⟨rfl, rfl⟩
    refine zst ?_
    refine WU.stp rfl rfl rfl (stp_call rfl (c_assert wk)) ?_
    rintro _ _ rfl
    -- the embedded one's rank is less
    obtain ⟨jy, hjy, hrky⟩ : ∃ jy, jy < k ∧ rk K.D y jy := by
      have h1 := hrk.1
      cases k with
      | zero => exact h1.elim
      | succ k' =>
        have h2 := h1 (by rw [hif.under]; exact hd.k9) (j + i) e (by rw [hif.under]; exact he) (by rw [hif.under, hd.cnt]; omega)
        obtain ⟨jy, h3, h4⟩ := rk_exists h2
        exact ⟨jy, by omega, rk_congr (huy.trans (hify.under).symm) h4⟩
    have hIfk : ∀ c u j', s.g c = some u → isIf u → rk K.D u j' → j' ≤ jy → IfS K s wk (PX p tb ps pa v) c u := fun c' u j' hc hu hr hj' => by
      refine hls.ifs c' u hc hu (fun e => ?_) (hI c' u j' hc hu hr (by omega))
      subst e
      rw [hgb] at hc
      cases hc
      have := rk_unique hrk hr
      omega
    refine zst ?_
    refine WU.stp rfl rfl rfl (stp_call rfl (ih jy hjy b2 y hg2 hify hrky wk (PX p tb ps pa v) 0 hsck (hpx wk v l fbs hszk hA) (hpxs wk v l fbs hA) hIfk)) ?_
    rintro _ w2 ⟨cp2, tb2, ms2, fb2, rfl, hts2, hper2⟩
    obtain ⟨ms0, hms0, hpm2⟩ := hts2.im
    have hms0' : ms0 = Li := (hms0.congr ((hify.under).trans huy.symm)).det hIMe
    have hnd2 := hts2.srt.nodup
    have hlm2 : ms2.length ≤ 1073741824 := by
      obtain ⟨_, ⟨⟨d, v, hdl, hsh⟩, hwt, _⟩, _⟩ := hsck.kn b2 y hg2 hify
      have h1 := IM_len hsc.sh hms0 hdl hsh
      have h2 := hsc.wd
      have h3 := hpm2.length_eq
      replace hwt : wt y ≤ 268435456 := hwt
      omega
    have hnd0 : (Li.map keyM).Nodup := by rw [← hms0']; exact (hpm2.map keyM).nodup_iff.1 hnd2
    have hls2 := hls.call cp2 hper2
    have hva2 : AllQ w2 (PX p tb ps pa v) va := hva.tr (.sta cp2.sta (by omega) _)
    obtain ⟨a2, c2, v2, htb2⟩ := hts2.tb
    have htt2 := htb2.ht
    have hout : ∀ k', ((ms2.take k').foldl addM out).length ≤ 1073741824 := fun k' => by
      have h1 := foldl_take ms2 out k'
      have h2 := (addM_perm hnd0 (hms0' ▸ hpm2) hpm).length_eq
      have h3 : mergeE (Ls.take (i + 1)) (ownM (norm t) j) = Li.foldl addM (mergeE (Ls.take i) (ownM (norm t) j)) := by
        rw [List.take_add_one, hLie, Option.toList_some, mergeE_snoc]
      rw [← h3] at h2
      have h4 := mergeE_take Ls (i + 1) (ownM (norm t) j)
      omega
    clear hts2 hper2 hIfk hls hC hA hva cp2 hsck hszk hbk dck erk hrte hrdy hecs hev hevc hry
    refine zst ?_
    refine W.loop (σ := Nat × Value) (fun (q, _) => [(124, .int .i64 q), (123, .int .i64 ms2.length), (122, .slice a2 ms2.length c2), (18, .int .i64 0), (22, pt tb2), (19, .bool false), (76, .int .i64 i), (75, .int .i64 en), (74, .slice (some ⟨eb, 0, none⟩) en ec), (14, va), (15, .bool false), (11, .func (.func 149) #[] #[pt ps, pt pa, pt pp]), (9, pt pa), (2, pt b), (0, .pointer none)])
      (fun (q, v) D' wk => D' = [] ∧ q ≤ ms2.length ∧ AllQ wk (PX p tb ps pa v) va ∧ TB K s wk (PX p tb ps pa v) tb2 a2 ms2.length c2 v2 ms2 fb2 ∧ LS K s w p b tb ps pa pp rr (ifc ma j mc' (some ⟨eb, 0, none⟩) en ec (pt tb)) (.slice (some ⟨g0, 0, none⟩) 1 c0) ((ms2.take q).foldl addM out) v wk)
      (fun (q, _) => ms2.length - q) (0, v) ⟨rfl, Nat.zero_le _, hva2, htb2, hls2⟩ (by exact sub_of ⟨rfl, rfl, rfl, rfl, rfl, rfl, rfl, rfl, rfl, rfl, rfl, rfl, rfl, rfl, rfl, trivial⟩) ?_
    clear hls2 hva2 htb2 htt2
    clear l fbs
    rintro ⟨q, v⟩ D' wk ⟨rfl, hq, hva, htb2, hls⟩
    obtain ⟨l, fbs, hA, hC⟩ := hls.ex
    have hsck : SC K s wk true := hsc.sta hls.cpl.sta (by omega)
    have hszk := hls.sz
    have htt2 := htb2.ht
    refine zst ?_
    by_cases hltq : q < ms2.length
    · rw [show decide ((q : Int) < (ms2.length : Int)) = true by simpa using hltq]
      obtain ⟨rb, rfl, hrc⟩ := htb2.row.row.cell hltq
      have hmq := List.getElem?_eq_getElem hltq
      generalize ms2[q] = m at hmq
      have hm := htb2.mth q m hmq
      have htk : ms2.take (q + 1) = ms2.take q ++ [m] := by rw [List.take_add_one, hmq]; rfl
      refine zst ?_
      refine WU.yld rfl rfl rfl (yld_load_c rfl hrc) ?_
      refine zst ?_
      refine WU.stp rfl rfl rfl (stp_callc (caps := [pt ps, pt pa, pt pp]) rfl rfl (c_addC K s ps ps pa pp rr (fb2 q) l v fbs _ m 0 false wk hA (by omega) hsck.prp hsck.pkg hC hm hslps (hout q))) ?_
      rintro _ w' ⟨bl, l', v', fbs', hA', hC', hK', hg'⟩
      have xt : Tr K wk w' (PX p tb ps pa v) (PX p tb ps pa v') := PX.tr hK' hg'
      refine zst ?_
      refine ⟨(q + 1, v'), by show ms2.length - (q + 1) < ms2.length - q; omega, ⟨rfl, by omega, hva.tr xt, htb2.tr xt (.sameM (fun d hd => bl.block d (hslps d hd)) fun _ h => h), ?_⟩, sub_of ⟨rfl, rfl, rfl, rfl, rfl, rfl, rfl, rfl, rfl, rfl, rfl, rfl, rfl, rfl, rfl, trivial⟩⟩
      rw [htk, foldl_snoc]
      exact hls.step bl hA' hC' hK' hg' hwp hbt htt hslps
    rw [show decide ((q : Int) < (ms2.length : Int)) = false by simpa using hltq]
    obtain rfl : q = ms2.length := by omega
    rw [List.take_of_length_le (Nat.le_refl _)] at hls hC
    obtain ⟨ga, ca, ta, csa, rfl, _⟩ := hva.all.open
    obtain ⟨ga2, ca2, ta2, csa2, rfl, _⟩ := htb2.all.all.open
    refine zst ?_
    refine WU.stp rfl rfl rfl (stp_call rfl (c_intersectTermLists _ _ wk (PX p tb ps pa v) (hpx wk v l fbs hszk hA) hva.all htb2.all)) ?_
    rintro _ w' ⟨u, rfl, hu, xu⟩
    refine zst ?_
    refine ⟨(i + 1, v, u), by show en - (i + 1) < en - i; omega, ⟨rfl, by omega, hu, _, hls.ext xu, ?_⟩, sub_of ⟨rfl, rfl, rfl, rfl, rfl, rfl, rfl, rfl, rfl, trivial⟩⟩
    rw [List.take_add_one, hLie, Option.toList_some, mergeE_snoc]
    exact addM_perm hnd0 (hms0' ▸ hpm2) hpm
  rw [show decide ((i : Int) < (en : Int)) = false by simpa using hlti]
  obtain rfl : i = en := by omega
  rw [List.take_of_length_le (by omega)] at hpm
  have hol : out.length ≤ 1073741824 := by rw [hpm.length_eq]; exact hlenF
  have htk := hls.ht
  have hpak := hA.al
  have hbk2 := hls.hb
  obtain ⟨sa, scp, hsh, _, _⟩ := Own.shape hA.ow
  have hfl : (fbs.map fun b => [pt b]).length = out.length := by rw [List.length_map, hC.len]
  rw [hfl] at hsh
  subst hsh
  have hownpa : ∀ d, (Value.slice sa out.length scp).ownBlock = some d → d ≠ pa := fun d hd => by
    obtain ⟨cs, k1⟩ := Own.cellsOf hA.ow d hd
    exact Has.tne k1 hpak (by decide)
  obtain ⟨gv, cv, tv, csv, rfl, _⟩ := hva.all.open
  refine zst ?_
  refine WU.stp0 rfl rfl (stp_store_cell rfl rfl rfl rfl) ?_
  rintro _ w1 u1
  have ht1 : Has w1 tb (.cells #[.bool false, .slice none 0 0, .slice (some ⟨g0, 0, none⟩) 1 c0, .bool false] tTS) := u1.has
  have hb1 : Has w1 b (.cells (ifc ma j mc' ea i ec (pt tb)) tIF) := ⟨(u1.oth b (Ne.symm htb)).trans hbk2.at_⟩
  have hpa1 : Has w1 pa (.cells #[.slice sa out.length scp] tMS) := ⟨(u1.oth pa (by omega)).trans hpak.at_⟩
  have q1 := u1.size
  have hsl1 : ∀ d, s.sl d → w1.heap[d]? = wk.heap[d]? := fun d hd => u1.oth d (by have := hslp d hd; omega)
  have hA1 : AM w1 ps ps pa pp rr l (.slice sa out.length scp) fbs := hA.kept fun d o ho hno => (u1.oth d fun e => by
    subst e
    have := htk.at_.symm.trans ho
    exact (hno _ _ (Option.some.inj this).symm).2 rfl).trans ho
  have hC1 : Col K s w1 out fbs l := hC.tr (.sameM hsl1 fun _ h => h)
  have st1 : Sta K 1 w w1 := (hls.cpl.upd_new u1 (by omega)).sta
  have hsc1 := hsc.sta st1 (by omega)
  refine zst ?_
  cases hn0 : ((out.length : Int) != 0)
  · obtain rfl : out = [] := by
      have : (out.length : Int) = 0 := by simpa using hn0
      exact List.eq_nil_of_length_eq_zero (by omega)
    refine zst ?_
    refine WU.stp0 rfl rfl (stp_store_cell rfl rfl rfl rfl) ?_
    rintro _ w5 u5
    have ht5 := u5.has
    have hb5 : Has w5 b (.cells (ifc ma j mc' ea i ec (pt tb)) tIF) := ⟨(u5.oth b (Ne.symm htb)).trans hb1.at_⟩
    have q5 := u5.size
    refine zst ?_
    refine fin1 (.inl rfl) rfl rfl (hls.done (wz := w5) (ms := []) (a := none) (c := 0) (fb := fun _ => 0) hgb (hps b hd.pb) htbp hp (by omega) htt hltb hslp ⟨u5.os.trans u1.os, u5.tape.trans u1.tape, u5.output.trans u1.output, by omega⟩ (fun d o ho hd1 _ => (u5.oth d hd1).trans ((u1.oth d hd1).trans ho)) ht5 (fun i hi => absurd hi (Nat.not_lt_zero _)) (.refl _) (fun i j m m' _ hi => by simp at hi) (fun i m hm => by simp at hm) hva hpm hIM)
  · refine zst ?_
    refine WU.stp rfl rfl rfl (stp_call rfl (c_sortC ps ps pa pp rr l _ fbs out w1 hA1 hC1 hsc1.prp hsc1.pkg hgps hol)) ?_
    rintro _ w2 ⟨bl2, hk2, a', c', ms, fb', hv', hpm', hsrt, hrow, hmth⟩
    cases hv'
    have ht2 := Has.bel bl2 htt ht1
    have hb2 := Has.bel bl2 hbt hb1
    have hpa2 : Has w2 pa (.cells #[.slice sa out.length scp] tMS) := ⟨hk2 pa _ hpa1.at_ fun e => hownpa pa e rfl⟩
    refine zst ?_
    refine W.regD [(0, .q), (1, .q), (2, .q), (3, .q), (4, .q), (5, .q), (6, .q), (7, .z)] (by kernel_rfl) (by kernel_rfl) rfl ?_
    intro w3 x3 _
    have ht3 := ht2.ext' x3
    have hb3 := hb2.ext' x3
    have hpa3 := hpa2.ext' x3
    refine zsd ?_
    refine WD.last0 rfl rfl rfl (stp_store_cell rfl rfl rfl rfl) ?_
    rintro _ w4 u4
    have ht4 := u4.has
    have hb4 : Has w4 b (.cells (ifc ma j mc' ea i ec (pt tb)) tIF) := ⟨(u4.oth b (Ne.symm htb)).trans hb3.at_⟩
    refine zsd ?_
    refine zst ?_
    refine WU.stp0 rfl rfl (stp_store_cell rfl rfl rfl rfl) ?_
    rintro _ w5 u5
    have ht5 := u5.has
    have hb5 : Has w5 b (.cells (ifc ma j mc' ea i ec (pt tb)) tIF) := ⟨(u5.oth b (Ne.symm htb)).trans hb4.at_⟩
    have q2 := bl2.size
    have q3 := x3.size
    have q4 := u4.size
    have q5 := u5.size
    have hlms : ms.length = out.length := hpm'.length_eq
    refine zst ?_
    refine fin1 (.inl rfl) rfl rfl (hls.done (wz := w5) (ms := ms) (a := sa) (c := scp) (fb := fb') hgb (hps b hd.pb) htbp hp (by omega) htt hltb hslp
      ⟨u5.os.trans (u4.os.trans (x3.below.os.trans (bl2.os.trans u1.os))), u5.tape.trans (u4.tape.trans (x3.below.tape.trans (bl2.tape.trans u1.tape))), u5.output.trans (u4.output.trans (x3.below.output.trans (bl2.output.trans u1.output))), by omega⟩
      (fun d o ho hd1 hd2 => ?_) (by rw [hlms]; exact ht5) (fun i hi => ?_) hpm' hsrt (fun i m hm => (hmth i m hm).tr (.sameM (fun d hd => (hsl1 d hd).symm) fun _ h => h)) hva hpm hIM)
    · have k1 := (u1.oth d hd1).trans ho
      have k2 := hk2 d o k1 hd2
      have k3 := (x3.below.block d (Array.getElem?_eq_some_iff.1 k2).1).trans k2
      exact (u5.oth d hd1).trans ((u4.oth d hd1).trans k3)
    · obtain ⟨g, cs, r1, r2, r3, r4⟩ := hrow i (by omega)
      have r5 := r3.ext' x3
      exact ⟨g, cs, r1, r2, ⟨(u5.oth g (by omega)).trans ((u4.oth g (by omega)).trans r5.at_)⟩, r4⟩
/-- computeInterfaceTypeSet -/
theorem c_cits (K : Cfg) (s : Gs) (f : Bool) (k : Nat) : ∀ (b : Nat) (t : Ty), s.g b = some t → isIf t → rk K.D t k → (f = true ∨ (norm t).count = (norm t).elems.length) → CitsC K s f k b t := by
  induction k using Nat.strongRecOn generalizing f with
  | _ k ih =>
    intro b t hgb hif hrk hfe w p pos hsc hp hps hI
    rcases hI b t k hgb hif hrk (Nat.le_refl _) with ⟨tb, ms, fb, h⟩ | h
    · exact (c_cits_done w pos b tb h.ib).mono fun e w' ⟨r, he, h1, h2⟩ => ⟨r, he, by subst h2; exact .rfl' _ _, tb, ms, fb, h1, by subst h2; exact h, fun c u _ _ hs => by subst h2; exact hs⟩
    · exact cits_walk K s f k b t hgb hif hrk hfe (fun j hj c u hc hu hr => ih j hj true c u hc hu hr (.inl rfl)) w p pos hsc hp hps hI h
end Go.Proofs.YtpiegpegjbmlkaaGreatDoor
namespace Go.Kd
section
variable {P : Program} {n : Nat} {ops : List Oper} {Q : Post} {D : List Deferred} {e : Env} {w : World}
/-- some operations are done; k are left -/
structure WT (P : Program) (n : Nat) (ops : List Oper) (Q : Post) (listed : Array Bool) (k : Nat) (D : List Deferred) (e : Env) (w : World) : Prop where
  out : Closed .any ops.toArray listed → ∀ a, Fr n D e a → wpE P .any ops.toArray (post n Q) k listed a w
theorem W.regT [hm : Mixed P] {id : Nat} {l : List Oper} (h : ∀ w', Ext w w' → WT P n l Q (Array.replicate l.length false) l.length D e w') : W P n (.region id l.toArray true) Q D e w := ⟨fun a ha => by
  refine wp_region_any hm.mixed (wpAny_of_wpE _ _ _ _ ?_)
  have hx : Ext w { w with drawn := w.drawn + 1 } := ⟨⟨rfl, rfl, rfl, Nat.le_refl _, fun _ _ => rfl⟩⟩
  have := (h _ hx).out (fun k ok _ h => by simp [Array.getD] at h) a ha
  simpa using this⟩
/-- the rest in one order -/
theorem WT.lin {listed : Array Bool} {k : Nat} (L : List (Nat × Kn)) (hs : Region.noSelect ops.toArray = true) (hL : ordOk .any ops.toArray L listed = true) (hlen : L.length = k) (h : WD P n ops Q L D e w) : WT P n ops Q listed k D e w := ⟨fun hcl a ha => by
  subst hlen
  exact wpE_of_wpL (md := .any) (Q := post n Q) (fun c a w hq => hq) hs L listed a w hcl hL (h.out a ha)⟩
/-- a quiet one first -/
theorem WT.q {listed : Array Bool} {k : Nat} (i : Nat) {o : Oper} {d : Nat} {v : Value} (hs : Region.noSelect ops.toArray = true) (hr : (Region.ready .any ops.toArray listed).contains i = true) (hf : Region.free .any ops.toArray listed i = true) (hi : ops[i]? = some o) (hd : o.dst = some d) (hl : Nat.blt d n = true)
    (hg : wn ops e o.guard = some true) (h : Yld P e o v w) (hk : WT P n ops Q (listed.setIfInBounds i true) k D ((d, v) :: e) w) : WT P n ops Q listed (k + 1) D e w := ⟨fun hcl a ha => by
  have hr' : i ∈ Region.ready .any ops.toArray listed := by simpa using hr
  have hi' : ops.toArray[i]? = some o := by simpa using hi
  have hp : Fr n D ((d, v) :: e) (a.put o.dst v) := by rw [hd]; exact ha.put (by simpa [Nat.blt_eq] using hl) v
  exact wpE_first hi' (Region.noSelect_spec hs) (fun c a w hq => hq) k listed a w hcl (Region.free_spec hi' hf) hr' (.inl ⟨wn_spec hg ha, fun w' hx => h.out _ ha.ag w' hx⟩) (hk.out (hcl.step hr') _ hp)⟩
/-- one of two comes next -/
theorem WT.two {listed : Array Bool} {k i j : Nat} {o o' : Oper} {d d' : Nat} {R R' : Value → World → Prop} (hr : (Region.ready .any ops.toArray listed == [i, j]) = true)
    (hi : ops[i]? = some o) (hd : o.dst = some d) (hl : Nat.blt d n = true) (hg : wn ops e o.guard = some true) (h : Stp P e o w R)
    (hi' : ops[j]? = some o') (hd' : o'.dst = some d') (hl' : Nat.blt d' n = true) (hg' : wn ops e o'.guard = some true) (h' : Stp P e o' w R')
    (hk : ∀ v w', R v w' → Ext w w' ∧ WT P n ops Q (listed.setIfInBounds i true) k D ((d, v) :: e) w') (hk' : ∀ v w', R' v w' → Ext w w' ∧ WT P n ops Q (listed.setIfInBounds j true) k D ((d', v) :: e) w') :
    WT P n ops Q listed (k + 1) D e w := ⟨fun hcl a ha => by
  have hrr : Region.ready .any ops.toArray listed = [i, j] := by simpa using hr
  have hri : i ∈ Region.ready .any ops.toArray listed := by rw [hrr]; simp
  have hrj : j ∈ Region.ready .any ops.toArray listed := by rw [hrr]; simp
  have hi2 : ops.toArray[i]? = some o := by simpa using hi
  have hj2 : ops.toArray[j]? = some o' := by simpa using hi'
  refine ⟨fun h0 => (by rw [h0] at hrr; cases hrr), fun m hm => ?_⟩
  rw [hrr] at hm
  simp only [List.mem_cons, List.not_mem_nil, or_false] at hm
  unfold wpOp
  rcases hm with rfl | rfl
  · simp only [hi2]
    rw [wn_spec hg ha, if_pos rfl]
    exact .inl (upon_of_stp ha h fun v w' hR => ⟨.inl (hk v w' hR).1, (hk v w' hR).2.out (hcl.step hri) _ (by rw [hd]; exact ha.put (by simpa [Nat.blt_eq] using hl) v)⟩)
  · simp only [hj2]
    rw [wn_spec hg' ha, if_pos rfl]
    exact .inl (upon_of_stp ha h' fun v w' hR => ⟨.inl (hk' v w' hR).1, (hk' v w' hR).2.out (hcl.step hrj) _ (by rw [hd']; exact ha.put (by simpa [Nat.blt_eq] using hl') v)⟩)⟩
/-- a cut behind the first part -/
theorem W.cutW {x y : Code} (I : Env → World → Prop) (h1 : W P n x (fun x' D' e' w' => x' = .normal ∧ D' = [] ∧ I e' w') D e w) (h2 : ∀ e' w', I e' w' → W P n y Q [] e' w') : W P n (.seq x y) Q D e w :=
  W.seq (h1.mono fun x' D' e' w' ⟨hx, hD, hI⟩ => by subst hx hD; exact thn_normal (h2 e' w' hI))
end
end Go.Kd
namespace Go.Proofs.YtpiegpegjbmlkaaGreatDoor
open Go Go.Kd
set_option maxRecDepth 100000

/-! ### Nothing depends on where the row of names lies -/
theorem RowT.cfg {K K' : Cfg} {w : World} {p : Nat → Prop} {a : Option Addr} {n : Nat} {f : Nat → Value} (hp : ∀ b, p b → b ≠ K'.nb) (h : RowT K w p a n f) : RowT K' w p a n f := fun i hi => by
  obtain ⟨b, cs, h1, h2, _, h4⟩ := h i hi
  exact ⟨b, cs, h1, h2, hp b h2, h4⟩
theorem RT.cfg {K K' : Cfg} {s : Gs} {w : World} {p : Nat → Prop} (hq : ∀ b, p b → b ≠ K'.nb) {v : Value} {t : Ty} (h : RT K s w p v t) : RT K' s w p v t := by
  induction h with
  | basic t b i nb h0 h1 h2 hp h3 h4 => exact .basic t b i nb h0 h1 h2 hp h3 h4
  | error t h0 h1 => exact .error t h0 h1
  | any t b h0 h1 hp h2 h3 => exact .any t b h0 h1 hp h2 h3
  | named t v h0 h1 => exact .named t v h0 h1
  | ptr t e v b h0 h1 _ hp h3 h4 ih => exact .ptr t e v b h0 h1 ih hp h3 h4
  | slice t e v b h0 h1 _ hp h3 h4 ih => exact .slice t e v b h0 h1 ih hp h3 h4
  | array t e v b h0 h1 _ hp h3 h4 ih => exact .array t e v b h0 h1 ih hp h3 h4
  | map t k e u v b h0 h1 _ _ hp h3 h4 ih1 ih2 => exact .map t k e u v b h0 h1 ih1 ih2 hp h3 h4
  | chan t e v b h0 h1 _ hp h3 h4 ih => exact .chan t e v b h0 h1 ih hp h3 h4
  | struct t b fa fc ta tc vb vv tg h0 _ h2 hp h3 h4 h5 h6 ih => exact .struct t b fa fc ta tc vb vv tg h0 ih h2 hp h3 h4 h5 h6
  | func t b ps rs vb vv h0 _ h2 hp h3 h4 h5 h6 ih => exact .func t b ps rs vb vv h0 ih h2 hp h3 h4 h5 h6
  | iface t b ma mc ea ec fb me sv ev h0 _ h2 h3 _ hp h5 h6 h7 h8 ih1 ih2 => exact .iface t b ma mc ea ec fb me sv ev h0 ih1 h2 h3 ih2 hp h5 h6 (h7.cfg hq) h8
theorem TSv.cfg {K K' : Cfg} {s : Gs} {w : World} {p : Nat → Prop} (hq : ∀ b, s.sl b → b ≠ K'.nb) (hD : K'.D = K.D) {b : Nat} {t : Ty} (h : TSv K s w p b t) : TSv K' s w p b t := by
  obtain ⟨tb, ms, fb, h⟩ := h
  exact ⟨tb, ms, fb, h.pb, h.ptb, h.ib, by rw [hD]; exact h.im, h.srt, h.tsb, fun i m hm => by
    obtain ⟨pk, sv, h1, h2, h3, h4, h5⟩ := h.mth i m hm
    exact ⟨pk, sv, h1, h2, h3, h4.cfg hq, h5⟩⟩

/-! ### The type of error -/
def strTy : Ty := .mk 0 16 0 false [] eB eB false
theorem legal_str (D : List De) : Legal D strTy := .mk _ (fun i e he => by simp [strTy, Ty.elems] at he) ⟨fun h => by simp [strTy, Ty.kind] at h, fun h => by simp [strTy, Ty.kind] at h, fun h => by simp [strTy, Ty.kind] at h, fun h => by simp [strTy, Ty.kind] at h, fun h => by simp [strTy, Ty.kind] at h, fun h => by simp [strTy, Ty.kind] at h, fun h => by simp [strTy, Ty.kind] at h, fun h => by simp [strTy, Ty.kind] at h⟩
theorem eB_list : eB.toList = [] := by rw [Lib.toList_data]
theorem legal_errFn (D : List De) : Legal D errFn := .mk _ (fun i e he => by
    match i with
    | 0 => simp [errFn, Ty.elems] at he; subst he; exact legal_str D
    | i + 1 => simp [errFn, Ty.elems] at he) ⟨fun h => by simp [errFn, Ty.kind] at h, fun h => by simp [errFn, Ty.kind] at h, fun h => by simp [errFn, Ty.kind] at h, fun _ => .inl fun t ht => by simp [errFn, Ty.elems, Ty.count] at ht, fun _ => .inl fun t ht => by
    simp [errFn, Ty.elems, Ty.count] at ht
    subst ht
    exact eB_list, fun h => by simp [errFn, Ty.kind] at h, fun h => by simp [errFn, Ty.kind] at h, fun h => by simp [errFn, Ty.kind] at h⟩
def errNm : ByteArray := ⟨#[69, 114, 114, 111, 114]⟩
theorem errNm_list : errNm.toList = [69, 114, 114, 111, 114] := by rw [Lib.toList_data]; rfl
theorem errNm_id : Ident errNm.toList := by
  rw [errNm_list]
  refine ⟨by simp, .inr fun i c hc => ?_⟩
  match i with
  | 0 | 1 | 2 | 3 | 4 => left; simp at hc; subst hc; decide
  | i + 5 => simp at hc
theorem errT_el {i : Nat} {e : Ty} (h : errT.elems[i]? = some e) : i = 0 ∧ e = errFn := by
  match i with
  | 0 => simp [errT, Ty.elems] at h; exact ⟨rfl, h.symm⟩
  | i + 1 => simp [errT, Ty.elems] at h
theorem im_err (D : List De) : IM D errT (ownM errT 1) := IM.of (L := []) (u := errT) (c := 1) (by rw [under_lit isLit_errT.1 isLit_errT.2]; exact under_norm_err) rfl rfl (by decide) rfl fun j e l _ hl => by simp at hl
theorem legal_errT (D : List De) : Legal D errT := .mk _ (fun i e he => by rw [(errT_el he).2]; exact legal_errFn D) ⟨fun h => by simp [errT, Ty.kind] at h, fun h => by simp [errT, Ty.kind] at h, fun h => by simp [errT, Ty.kind] at h, fun h => by simp [errT, Ty.kind] at h, fun h => by simp [errT, Ty.kind] at h,
    fun _ i e he _ => by
      rw [(errT_el he).2]
      show errNm.toList ≠ us
      rw [errNm_list]
      decide, fun _ => by
      show Uniq [errNm.toList]
      exact ⟨fun i s hs => by
        match i with
        | 0 => simp at hs; subst hs; exact errNm_id
        | i + 1 => simp at hs, fun i j s hij hi hj => by
        match j with
        | 0 => omega
        | j + 1 => simp at hj⟩, fun _ => ⟨_, im_err D, fun i e he hc => by
      exfalso
      obtain ⟨h1, _⟩ := errT_el he
      subst h1
      simp [errT, Ty.count] at hc, fun i e he hc => by
      exfalso
      obtain ⟨h1, _⟩ := errT_el he
      subst h1
      simp [errT, Ty.count] at hc⟩⟩
theorem wf_errT (D : List De) : WfI D errT := ⟨⟨0, false, Nat.zero_le _, shaped_err D⟩, by
  unfold errT
  simp [wt, wts]
  decide, legal_errT D⟩
theorem rk_errT (D : List De) : ∃ k, rk D errT k := by
  obtain ⟨k, hk⟩ := (im_err D).rank
  obtain ⟨j, _, h⟩ := rk_exists hk
  exact ⟨j, h⟩

set_option maxHeartbeats 4000000 in
theorem c_NewError (D : List De) (pk : Int → Value) (w : World) (hp : Prp w) (hg : gP < w.heap.size) (hD : ShapedD D) (hwd : wtD D ≤ 16777216) (hpk : ∀ n, n = 0 ∨ n = 1 → ∃ c x, pk n = pt c ∧ Has w c (.cells #[.string (pth n), .string x] tPK)) :
    Calls Tryz.prog 75 #[] w (Ret fun r w' => Ext w w' ∧ ∃ (b : Nat) (s : Gs), r = pt b ∧ s.nm = (fun _ => none) ∧ s.er = .iface tNP (pt b) ∧ s.pk = pk ∧ (∀ d, s.sl d → w.heap.size ≤ d ∧ d < w'.heap.size) ∧ ErrI ⟨w.heap.size, 0, D⟩ s w' ∧
      ∀ c u, s.g c = some u → w.heap.size ≤ c ∧ c < w'.heap.size ∧ (isIf u → WfI D u ∧ RT ⟨w.heap.size, 0, D⟩ s w' s.sl (.iface tPI (pt c)) u ∧ TSv ⟨w.heap.size, 0, D⟩ s w' (fun _ => True) c u)) := by
  refine W.enter (args := []) Tryz.func75 rfl Tryz.ntmps75 rfl rfl ?_
  refine zst ?_
  refine WU.stp rfl rfl rfl (stp_call rfl (c_NewTypeName 0 none ⟨#[101, 114, 114, 111, 114]⟩ w)) ?_
  rintro _ w1 ⟨ob, rfl, n1⟩
  refine zst ?_
  refine WU.stp rfl rfl rfl (stp_call rfl (c_newNamed ob (.pointer none) ⟨#[101, 114, 114, 111, 114]⟩ w1 n1.has)) ?_
  rintro _ w3 ⟨b, w2, rfl, n2, u3⟩
  refine zst ?_
  refine WU.stp rfl rfl rfl (stp_call rfl (c_newVar 3 0 none eB tNP (pt b) w3)) ?_
  rintro _ w4 ⟨v1, rfl, n4⟩
  refine zst ?_
  refine WU.stp rfl rfl rfl (stp_call rfl (c_Typ 17 w4 (by decide))) ?_
  rintro _ w5 ⟨bas, ix, bnm, rfl, hbg, hbas, x5⟩
  refine zst ?_
  refine WU.stp rfl rfl rfl (stp_call rfl (c_newVar 5 0 none eB 109 (pt bas) w5)) ?_
  rintro _ w6 ⟨v2, rfl, n6⟩
  refine zst ?_
  refine WU.stp rfl rfl rfl (stp_buildSlice rfl rfl rfl rfl rfl) ?_
  rintro _ w7 ⟨r7, rfl, n7⟩
  refine zst ?_
  refine WU.stp rfl rfl rfl (stp_call rfl (c_NewTuple' (some ⟨r7, 0, none⟩) 1 1 w7)) ?_
  rintro _ w8 ⟨q8, rfl, x8, ht8⟩
  obtain ⟨tup, rfl, _, htg, htup⟩ : ∃ b, q8 = some ⟨b, 0, none⟩ ∧ 0 < 1 ∧ w7.heap.size ≤ b ∧ Has w8 b (.cells #[.slice (some ⟨r7, 0, none⟩) 1 1] 220) := ht8.resolve_left fun h => by cases h.2
  refine zst ?_
  refine WU.stp rfl rfl rfl (by first | exact stp_box rfl rfl | exact stp_box1 rfl rfl) ?_
  rintro _ w9 ⟨sg, rfl, n9⟩
  refine zst ?_
  refine WU.stp rfl rfl rfl (stp_call rfl (c_NewFunc 0 none ⟨#[69, 114, 114, 111, 114]⟩ sg w9)) ?_
  rintro _ w10 ⟨fn, rfl, n10⟩
  refine zst ?_
  refine WU.stp rfl rfl rfl (stp_buildSlice rfl rfl rfl rfl rfl) ?_
  rintro _ w11 ⟨r11, rfl, n11⟩
  refine zst ?_
  refine WU.stp rfl rfl rfl (by first | exact stp_box rfl rfl | exact stp_box1 rfl rfl) ?_
  rintro _ w12 ⟨ib, rfl, n12⟩
  have hl5 := hbas.lt
  have e1 := n1.num
  have e2 := n2.num
  have e4 := n4.num
  have e6 := n6.num
  have e7 := n7.num
  have e9 := n9.num
  have e10 := n10.num
  have e11 := n11.num
  have e12 := n12.num
  have z1 := n1.size
  have z2 := n2.size
  have z3 := u3.size
  have z4 := n4.size
  have z5 := x5.size
  have z6 := n6.size
  have z7 := n7.size
  have z8 := x8.size
  have z9 := n9.size
  have z10 := n10.size
  have z11 := n11.size
  have z12 := n12.size
  have x3_12 : Ext w3 w12 := (((((((n4.ext.trans x5).trans n6.ext).trans n7.ext).trans x8).trans n9.ext).trans n10.ext).trans n11.ext).trans n12.ext
  have hb3 : Has w3 b (.cells (nmc (pt ob) false 0 0 .nilIface .nilIface (.slice none 0 0)) tNM) := ⟨(u3.oth b (by omega)).trans n2.has.at_⟩
  have hob3 := u3.has
  have hb12 := hb3.ext' x3_12
  have hob12 := hob3.ext' x3_12
  have hbas12 := (((((((hbas.ext' n6.ext).ext' n7.ext).ext' x8).ext' n9.ext).ext' n10.ext).ext' n11.ext).ext' n12.ext)
  have hv2 := (((((n6.has.ext' n7.ext).ext' x8).ext' n9.ext).ext' n10.ext).ext' n11.ext).ext' n12.ext
  have hr7 := ((((n7.has.ext' x8).ext' n9.ext).ext' n10.ext).ext' n11.ext).ext' n12.ext
  have htp := (((htup.ext' n9.ext).ext' n10.ext).ext' n11.ext).ext' n12.ext
  have hsg := ((n9.has.ext' n10.ext).ext' n11.ext).ext' n12.ext
  have hfn := (n10.has.ext' n11.ext).ext' n12.ext
  have hr11 := n11.has.ext' n12.ext
  have hib := n12.has
  have x0_12 : Ext w w12 := ⟨(bel_upd ((n1.ext.trans n2.ext).below) u3 (by omega)).trans (x3_12.below.mono (by omega))⟩
  let s : Gs := ⟨fun _ => none, fun c => if c = b then some errB else if c = ib then some errT else if c = sg then some errFn else if c = bas then some strTy else none, .iface tNP (pt b), pk, fun d => w.heap.size ≤ d ∧ d < w12.heap.size⟩
  let K : Cfg := ⟨w.heap.size, 0, D⟩
  have hgb : s.g b = some errB := by show (if b = b then _ else _) = _; rw [if_pos rfl]
  have hgi : s.g ib = some errT := by show (if ib = b then _ else _) = _; rw [if_neg (by omega), if_pos rfl]
  have hgs : s.g sg = some errFn := by show (if sg = b then _ else _) = _; rw [if_neg (by omega), if_neg (by omega), if_pos rfl]
  have hgba : s.g bas = some strTy := by show (if bas = b then _ else _) = _; rw [if_neg (by omega), if_neg (by omega), if_neg (by omega), if_pos rfl]
  have hsl : ∀ d, ob ≤ d → d < w12.heap.size → s.sl d := fun d h1 h2 => ⟨by omega, h2⟩
  have rtS : RT K s w12 s.sl (.iface 109 (pt bas)) strTy := .basic strTy bas ix bnm rfl (by decide) (by decide) (hsl _ (by omega) hbas12.lt) hbas12 hgba
  have rtF : RT K s w12 s.sl (.iface tSP (pt sg)) errFn := .func errFn sg (.pointer none) (pt tup) (fun _ => v2) (fun _ => .iface 109 (pt bas)) rfl (fun i e he => by
      match i with
      | 0 => simp [errFn, Ty.elems] at he; subst he; exact rtS
      | i + 1 => simp [errFn, Ty.elems] at he) (fun i e he => by
      match i with
      | 0 => simp [errFn, Ty.elems] at he; subst he; exact ⟨_, _, hsl _ (by omega) hv2.lt, hv2⟩
      | i + 1 => simp [errFn, Ty.elems] at he) (hsl _ (by omega) hsg.lt) ⟨_, hsg⟩ (.inl ⟨rfl, rfl⟩) (.inr ⟨tup, _, _, rfl, Nat.one_pos, hsl _ (by omega) htp.lt, htp, fun i hi => ⟨r7, _, rfl, hsl _ (by omega) hr7.lt, hr7, by
      obtain rfl : i = 0 := by have : i < 1 := hi; omega
      rfl⟩⟩) hgs
  have rtI : RT K s w12 s.sl (.iface tPI (pt ib)) errT := .iface errT ib (some ⟨r11, 0, none⟩) 1 none 0 (fun _ => fn) (fun _ => errFn) (fun _ => .iface tSP (pt sg)) (fun _ => .nilIface) rfl (fun i hi => rtF) (fun i hi => ⟨.pointer none, .inr ⟨rfl, by show expo errNm.toList = true; rw [errNm_list]; decide⟩, hsl _ (by omega) hfn.lt, hfn⟩) (.refl _) (fun i e he => by
      have := (errT_el he).1
      have h1 : errT.count.toNat = 1 := rfl
      omega) (hsl _ (by omega) hib.lt) ⟨_, hib⟩ (fun i hi => ⟨r11, _, rfl, hsl _ (by omega) hr11.lt, hr11, by
      obtain rfl : i = 0 := by have : i < 1 := hi; omega
      rfl⟩) (fun i hi => by have : i < 0 := hi; omega) hgi
  have hginv : ∀ c u, s.g c = some u → (c = b ∧ u = errB) ∨ (c = ib ∧ u = errT) ∨ (c = sg ∧ u = errFn) ∨ (c = bas ∧ u = strTy) := fun c u hc => by
    replace hc : (if c = b then some errB else if c = ib then some errT else if c = sg then some errFn else if c = bas then some strTy else none) = some u := hc
    split at hc
    · rename_i h; cases hc; exact .inl ⟨h, rfl⟩
    split at hc
    · rename_i h; cases hc; exact .inr (.inl ⟨h, rfl⟩)
    split at hc
    · rename_i h; cases hc; exact .inr (.inr (.inl ⟨h, rfl⟩))
    split at hc
    · rename_i h; cases hc; exact .inr (.inr (.inr ⟨h, rfl⟩))
    · cases hc
  have hif : ∀ c u, s.g c = some u → isIf u → c = ib ∧ u = errT := fun c u hc hu => by
    rcases hginv c u hc with ⟨_, rfl⟩ | ⟨h1, h2⟩ | ⟨_, rfl⟩ | ⟨_, rfl⟩
    · rcases hu with h | ⟨_, h⟩ <;> exact absurd h (by decide)
    · exact ⟨h1, h2⟩
    · rcases hu with h | ⟨h, _⟩ <;> exact absurd h (by decide)
    · rcases hu with h | ⟨_, h⟩ <;> exact absurd h (by decide)
  have hI9 : isIf errT := .inl rfl
  have hsc : SC K s w12 false := ⟨hp.ext x0_12, hg, fun n hn => by
      obtain ⟨c, x, h1, h2⟩ := hpk n hn
      exact ⟨c, x, h1, h2.ext' x0_12⟩, fun d hd => hd.2, ⟨b, rfl⟩, hD, hwd, fun h => Bool.noConfusion h, fun c u hc hu => by
      obtain ⟨rfl, rfl⟩ := hif c u hc hu
      exact ⟨by show w.heap.size ≤ _; omega, wf_errT D, rtI⟩⟩
  obtain ⟨k, hk⟩ := rk_errT D
  have hIN : IfN w12 ib := ⟨_, _, _, _, _, _, hib⟩
  refine zst ?_
  refine WU.stp rfl rfl rfl (stp_call rfl (c_cits K s false k ib errT hgi hI9 hk (.inr (by rw [under_norm_err]; rfl)) w12 (fun _ => True) 0 hsc (fun _ _ => trivial) (fun _ _ => trivial) fun c u j hc hu _ _ => by
    obtain ⟨rfl, rfl⟩ := hif c u hc hu
    exact .inr hIN)) ?_
  rintro _ w13 ⟨cp, tb, ms, fb, rfl, hts, _⟩
  have hb13 := cp.cells (by decide) hb12
  have hob13 := cp.cells (by decide) hob12
  have z13 := cp.size
  refine zst ?_
  refine WU.stp rfl rfl rfl (stp_call rfl (c_SetUnderlying b ib tPI (pt ob) (.slice none 0 0) false w13 hb13 rfl rfl)) ?_
  rintro _ w14 u14
  refine zst ?_
  have st : Sta K 2 w13 w14 := .of_upd hb13 u14 (by show w.heap.size ≤ b; omega) ⟨rfl, fun i hi => by
    unfold mc at hi
    simp only [show ¬ tNM = tTY from by decide, show ¬ tNM = tIF from by decide, show ¬ tNM = tSG from by decide, if_false, if_true] at hi
    simp [nilI] at hi
    match i, hi with
    | 0, _ => rfl
    | 1, _ => rfl⟩
  have st2 : Sta K 2 w12 w14 := (cp.sta.lev (by omega)).trans st
  have z14 := u14.size
  have xx : Ext w w14 := ⟨⟨u14.os.trans (cp.os.trans x0_12.below.os), u14.tape.trans (cp.tape.trans x0_12.below.tape), u14.output.trans (cp.output.trans x0_12.below.output), by omega, fun d hd => (u14.oth d (by omega)).trans ((cp.old d hd (by omega)).trans (x0_12.below.block d hd))⟩⟩
  refine fin1 (.inl rfl) rfl rfl ⟨xx, b, s, rfl, rfl, rfl, rfl, fun d hd => ⟨hd.1, by have := hd.2; omega⟩, ⟨b, ob, _, _, _, rfl, hgb, ⟨(u14.oth ob (by omega)).trans hob13.at_⟩, u14.has, rtI.sta st2 (by omega)⟩, fun c u hc => ?_⟩
  refine ⟨?_, ?_, fun hu => ?_⟩
  · rcases hginv c u hc with ⟨rfl, _⟩ | ⟨rfl, _⟩ | ⟨rfl, _⟩ | ⟨rfl, _⟩ <;> omega
  · have := hbas12.lt
    rcases hginv c u hc with ⟨rfl, _⟩ | ⟨rfl, _⟩ | ⟨rfl, _⟩ | ⟨rfl, _⟩ <;> omega
  · obtain ⟨rfl, rfl⟩ := hif c u hc hu
    exact ⟨wf_errT D, rtI.sta st2 (by omega), tb, ms, fb, hts.tr (.sta st (by omega) _) (.sta st (by omega) _)⟩
end Go.Proofs.YtpiegpegjbmlkaaGreatDoor
namespace Go.Proofs.YtpiegpegjbmlkaaGreatDoor
open Go Go.Kd
set_option maxRecDepth 100000

abbrev all' : Nat → Prop := fun _ => True
/-- what is known of all blocks that stand for types -/
def IIP (K : Cfg) (s : Gs) (w : World) (P : Nat → Prop) (made : List Nat) : Prop := ∀ c u, s.g c = some u → K.N ≤ c ∧ (isIf u → WfI K.D u ∧ RT K s w s.sl (.iface tPI (pt c)) u ∧ (TSv K s w P c u ∨ (c ∈ made ∧ Fresh w c u)))
abbrev II (K : Cfg) (s : Gs) (w : World) (made : List Nat) : Prop := IIP K s w all' made
theorem AllT.q {w : World} {v : Value} (h : AllT w v) : AllQ w all' v := by
  obtain ⟨a, c, tb, h1, h2, h3⟩ := h
  exact ⟨a, c, tb, h1, fun i hi => by
    obtain ⟨b, cs, k1, k2, k3⟩ := h2 i hi
    exact ⟨b, cs, k1, trivial, k2, k3⟩, trivial, h3⟩
theorem IM.nil {D : List De} {u : Ty} (h : isIf u) (he : u.kind = 0 ∨ u.elems = []) : IM D u [] := by
  have hu := h.under (D := D)
  have hel : (norm u).elems = [] := by
    rcases h with h | ⟨h, h2⟩
    · rw [norm_named (by omega)]; exact he.resolve_left (by omega)
    · unfold norm; rw [if_pos h, if_neg (by omega), if_neg (by omega), if_pos h2]; rfl
  have := IM.yes (D := D) u [] (by rw [hu]; exact h.norm9) (by rw [hu, hel]; rfl) (fun i e l he => by rw [hu, hel] at he; simp at he) (fun i e l he => by rw [hu, hel] at he; simp at he)
  exact this
theorem Fresh.ifs {K : Cfg} {s : Gs} {w : World} {c : Nat} {u : Ty} (h : Fresh w c u) (hi : isIf u) : IfS K s w all' c u := by
  rcases h with h | ⟨⟨tb, v, h1, h2, h3⟩, h4⟩
  · exact .inr h
  · exact .inl ⟨tb, [], fun _ => 0, trivial, trivial, h1, ⟨[], IM.nil hi h4, .refl _⟩, fun i j m m' _ hm => by simp at hm, ⟨none, 0, v, h2, h3.q, fun i hi => absurd hi (Nat.not_lt_zero _)⟩, fun i m hm => by simp at hm⟩
theorem IIP.ifs {K : Cfg} {s : Gs} {w : World} {made : List Nat} (h : II K s w made) : ∀ c u, s.g c = some u → isIf u → IfS K s w all' c u := fun c u hc hu => by
  obtain ⟨_, _, k⟩ := (h c u hc).2 hu
  rcases k with k | ⟨_, k⟩
  · exact .inl k
  · exact k.ifs hu
theorem RT.gle {K : Cfg} {s s' : Gs} {w : World} (l : s.gle s') {v : Value} {t : Ty} (h : RT K s w s.sl v t) : RT K s' w s'.sl v t := (h.le l.le).mono fun d _ hd => l.sl d hd
theorem TSv.gle {K : Cfg} {s s' : Gs} {w : World} {p : Nat → Prop} (l : s.gle s') {b : Nat} {t : Ty} (h : TSv K s w p b t) : TSv K s' w p b t := h.le l.le l.sl
theorem TSv.sta {K : Cfg} {l : Nat} {s : Gs} {w w' : World} {p : Nat → Prop} (x : Sta K l w w') (hl : l ≤ 3) {b : Nat} {t : Ty} (h : TSv K s w p b t) : TSv K s w' p b t := h.tr (.sta x hl _) (.sta x hl _)
/-- types have been made -/
theorem IIP.made {K : Cfg} {s s' : Gs} {w w' : World} {P : Nat → Prop} {bb n : Nat} {made new : List Nat} (h : IIP K s w P made) (m : Made K s w bb made n s' new w') (hN : K.N ≤ w.heap.size) : IIP K s' w' P (made ++ new) := fun c u hc => by
  rcases m.gn c u hc with k | ⟨k1, k2, k3⟩
  · obtain ⟨q1, q2⟩ := h c u k
    refine ⟨q1, fun hu => ?_⟩
    obtain ⟨r1, r2, r3⟩ := q2 hu
    refine ⟨r1, (r2.sta m.sta (by omega)).gle m.gle, ?_⟩
    rcases r3 with r3 | ⟨r3, r4⟩
    · exact .inl ((r3.sta m.sta (by omega)).gle m.gle)
    · exact .inr ⟨List.mem_append_left _ r3, r4.sta0 m.sta⟩
  · refine ⟨by omega, fun hu => ?_⟩
    obtain ⟨r1, r2⟩ := k3 hu
    obtain ⟨u', e1, e2, e3, e4⟩ := m.bi.kn c (List.mem_append_right _ r1)
    rw [hc] at e1
    cases e1
    exact ⟨e3, e4, .inr ⟨List.mem_append_right _ r1, r2⟩⟩
theorem IIP.clo {K : Cfg} {s : Gs} {w : World} {P : Nat → Prop} {made : List Nat} (h : IIP K s w P made) (lo hi : Nat) : IIP K (s.clo lo hi) w P made := fun c u hc => by
  obtain ⟨q1, q2⟩ := h c u hc
  refine ⟨q1, fun hu => ?_⟩
  obtain ⟨r1, r2, r3⟩ := q2 hu
  exact ⟨r1, r2.gle (Gs.gle_seal ..), r3.imp (fun k => k.gle (Gs.gle_seal ..)) id⟩

/-- what is needed that type sets may be computed -/
theorem sc_of {K : Cfg} {s : Gs} {w : World} {bb : Nat} {made : List Nat} (hbi : BI K s w bb made) (hd : DclI K s w K.D.length) (he : ErrI K s w) (hi : II K s w made) (hp : Prp w) (hg : gP < K.N) (hD : ShapedD K.D) (hw : wtD K.D ≤ 16777216) : SC K s w true :=
  ⟨hp, hg, hbi.pkg, hbi.sll, by obtain ⟨b, _, _, _, _, h1, _⟩ := he; exact ⟨b, h1⟩, hD, hw, fun _ => ⟨hd, he⟩, fun c u hc hu => by
    obtain ⟨q1, q2⟩ := hi c u hc
    obtain ⟨r1, r2, _⟩ := q2 hu
    exact ⟨q1, r1, r2⟩⟩
theorem rk_of {K : Cfg} {s : Gs} {w : World} {f : Bool} (hsc : SC K s w f) {b : Nat} {t : Ty} (hgb : s.g b = some t) (hif : isIf t) : ∃ k, rk K.D t k := by
  obtain ⟨hNb, hwf, hrt⟩ := hsc.kn b t hgb hif
  obtain ⟨ma, c, mc', ea, en, ec, fb, me, sv, ev, hd⟩ := hrt.ifd hif (fun T v hv e => by
    obtain ⟨b', he⟩ := hsc.er
    rw [he] at hv
    cases hv
    exact absurd e (by decide)) (fun h9 => by
    obtain ⟨⟨d, v, _, hsh⟩, _⟩ := hwf
    exact ⟨hsh.shape.c0 (.inr h9), hsh.shape.c1 (.inr h9)⟩)
  obtain ⟨Ls, _, _, _, hIM⟩ := hd.emb hif hwf
  obtain ⟨k, hk⟩ := hIM.rank
  obtain ⟨j, _, hj⟩ := rk_exists hk
  exact ⟨j, hj⟩
def TsC (K : Cfg) (s : Gs) (w : World) (b : Nat) (t : Ty) (r : Value) (w' : World) : Prop := Cpl K w w' ∧ ∃ tb ms fb, r = pt tb ∧ TSo K s w' all' b tb t ms fb ∧ ∀ c u, s.g c = some u → isIf u → IfS K s w all' c u → IfS K s w' all' c u
theorem c_typeSet {K : Cfg} {s : Gs} {w : World} (hsc : SC K s w true) {b : Nat} {t : Ty} (hgb : s.g b = some t) (hif : isIf t) (hI : ∀ c u, s.g c = some u → isIf u → IfS K s w all' c u) :
    Calls Tryz.prog 137 #[pt b] w (Ret (TsC K s w b t)) := by
  obtain ⟨k, hk⟩ := rk_of hsc hgb hif
  have hb : ∃ ma mn mc' ea en ec ts, Has w b (.cells (ifc ma mn mc' ea en ec ts) tIF) := by
    rcases hI b t hgb hif with ⟨tb, ms, fb, h⟩ | h
    · obtain ⟨a1, a2, a3, a4, a5, a6, h⟩ := h.ib
      exact ⟨a1, a2, a3, a4, a5, a6, _, h⟩
    · obtain ⟨a1, a2, a3, a4, a5, a6, h⟩ := h
      exact ⟨a1, a2, a3, a4, a5, a6, _, h⟩
  obtain ⟨ma, mn, mc', ea, en, ec, ts, hb⟩ := hb
  refine W.enter (args := [pt b]) Tryz.func137 rfl Tryz.ntmps137 rfl rfl ?_
  refine zst ?_
  refine WU.stp rfl rfl rfl (stp_call rfl (c_cits K s true k b t hgb hif hk (.inl rfl) w all' 0 hsc (fun _ _ => trivial) (fun _ _ => trivial) fun c u j hc hu _ _ => hI c u hc hu)) ?_
  rintro _ w' ⟨h1, tb, ms, fb, rfl, h2, h3⟩
  refine zst ?_
  exact fin1 (.inl rfl) rfl rfl ⟨h1, tb, ms, fb, rfl, h2, h3⟩
theorem c_Complete {K : Cfg} {s : Gs} {w : World} (hsc : SC K s w true) {b : Nat} {t : Ty} (hgb : s.g b = some t) (hif : isIf t) (hI : ∀ c u, s.g c = some u → isIf u → IfS K s w all' c u) :
    Calls Tryz.prog 129 #[pt b] w (Ret fun _ w' => ∃ r, TsC K s w b t r w') := by
  have hb : ∃ ma mn mc' ea en ec ts, Has w b (.cells (ifc ma mn mc' ea en ec ts) tIF) := by
    rcases hI b t hgb hif with ⟨tb, ms, fb, h⟩ | h
    · obtain ⟨a1, a2, a3, a4, a5, a6, h⟩ := h.ib
      exact ⟨a1, a2, a3, a4, a5, a6, _, h⟩
    · obtain ⟨a1, a2, a3, a4, a5, a6, h⟩ := h
      exact ⟨a1, a2, a3, a4, a5, a6, _, h⟩
  obtain ⟨ma, mn, mc', ea, en, ec, ts, hb⟩ := hb
  refine W.enter (args := [pt b]) Tryz.func129 rfl Tryz.ntmps129 rfl rfl ?_
  refine zst ?_
  refine WU.stp rfl rfl rfl (stp_call rfl (c_typeSet hsc hgb hif hI)) ?_
  rintro r w' h
  refine zst ?_
  exact fin1 (.inl rfl) rfl rfl ⟨r, h⟩

set_option maxHeartbeats 2000000 in
theorem c_complete {K : Cfg} {s : Gs} {w : World} {bb : Nat} {made : List Nat} (hbi : BI K s w bb made) (hsc : SC K s w true) (hi : II K s w made) (hl : made.length ≤ 1073741824) :
    Calls Tryz.prog 86 #[pt bb] w (Ret fun _ w' => Sta K 1 w w' ∧ BI K s w' bb [] ∧ II K s w' []) := by
  obtain ⟨na, nl, nc, vm, hbb, how, hnm⟩ := hbi.ex
  rw [map_getD] at how
  obtain ⟨a, c, rfl, hr⟩ := Own.row1 how
  refine W.enter (args := [pt bb]) Tryz.func86 rfl Tryz.ntmps86 rfl rfl ?_
  refine zst ?_
  refine W.loop (σ := Nat) (fun k => [(9, .int .i64 k), (8, .int .i64 made.length), (7, .slice a made.length c), (0, pt bb)])
    (fun k D' wk => D' = [] ∧ k ≤ made.length ∧ Cpl K w wk ∧ (∀ c u, s.g c = some u → isIf u → IfS K s wk all' c u) ∧ ∀ i, i < k → ∀ u, s.g (made.getD i 0) = some u → isIf u → TSv K s wk all' (made.getD i 0) u)
    (fun k => made.length - k) 0 ⟨rfl, Nat.zero_le _, .rfl' _ _, IIP.ifs hi, fun i h => by omega⟩ (by exact sub_of ⟨rfl, rfl, rfl, rfl, trivial⟩) ?_
  rintro k D' wk ⟨rfl, hk, hc, hI, hT⟩
  refine zst ?_
  by_cases hlt : k < made.length
  · rw [show decide ((k : Int) < (made.length : Int)) = true by simpa using hlt]
    obtain ⟨g, cs, rfl, _, _, q3, q4⟩ := hr k hlt
    have q3' := hc.cells (by decide) q3
    have hmem : made.getD k 0 ∈ made := by
      rw [List.getD_eq_getElem?_getD, List.getElem?_eq_getElem hlt]
      exact List.getElem_mem hlt
    obtain ⟨u, e1, e2, e3, e4⟩ := hbi.kn _ hmem
    refine zst ?_
    refine WU.yld rfl rfl rfl (yld_load_c rfl (by rw [Nat.mul_one, Nat.zero_add]; exact cell_of q3' q4)) ?_
    refine zst ?_
    refine WU.stp rfl rfl rfl (stp_call rfl (c_Complete (hsc.sta hc.sta (by omega)) e1 e2 hI)) ?_
    rintro _ w' ⟨r, hc', tb, ms, fb, rfl, ht, hp⟩
    refine zst ?_
    exact ⟨k + 1, by omega, ⟨rfl, by omega, hc.trans hc', fun c u h1 h2 => hp c u h1 h2 (hI c u h1 h2), fun i hi' u' h1 h2 => by
      by_cases hik : i = k
      · subst hik
        rw [e1] at h1
        cases h1
        exact ⟨tb, ms, fb, ht⟩
      · exact (hT i (by omega) u' h1 h2).sta hc'.sta (by omega)⟩, sub_of ⟨rfl, rfl, rfl, rfl, trivial⟩⟩
  · rw [show decide ((k : Int) < (made.length : Int)) = false by simpa using hlt]
    obtain rfl : k = made.length := by omega
    have hbbk := hc.cells (by decide) hbb
    refine zst ?_
    refine WU.stp0 rfl rfl (stp_store_cell rfl rfl rfl rfl) ?_
    rintro _ w' u'
    refine zst ?_
    have st : Sta K 1 wk w' := .of_upd hbbk u' hbi.N mok_made
    have st2 : Sta K 1 w w' := hc.sta.trans st
    refine fin0 (.inr rfl) rfl ⟨st2, ⟨hbi.N, hbi.nbN, Nat.lt_of_lt_of_le hbi.nbL st2.size, fun n hn => ?_, hbi.er, hbi.nm, fun b u hb => Nat.lt_of_lt_of_le (hbi.gl b u hb) st2.size, fun d hd => Nat.lt_of_lt_of_le (hbi.sll d hd) st2.size, fun b hb => (by cases hb), na, nl, nc, _, u'.has, by simpa using Own.nil w' K.N tPI 1, fun i x hx => ?_⟩, fun c u h1 => ?_⟩
    · obtain ⟨c, x, k1, k2⟩ := hbi.pkg n hn
      exact ⟨c, x, k1, Has.sta st2 k2⟩
    · obtain ⟨cs, k1, k2, k3, k4⟩ := hnm i x hx
      have k5 := hc.cells (by decide) k3
      exact ⟨cs, k1, k2, ⟨(u'.oth _ (Has.tne k5 hbbk (by decide))).trans k5.at_⟩, k4⟩
    · obtain ⟨r1, r2⟩ := hi c u h1
      refine ⟨r1, fun hu => ?_⟩
      obtain ⟨p1, p2, p3⟩ := r2 hu
      refine ⟨p1, p2.sta st2 (by omega), .inl ?_⟩
      rcases p3 with p3 | ⟨p3, _⟩
      · exact p3.sta st2 (by omega)
      · obtain ⟨i, hi'⟩ := List.getElem?_of_mem p3
        have hlt' := (List.getElem?_eq_some_iff.1 hi').1
        have hg : made.getD i 0 = c := by rw [List.getD_eq_getElem?_getD, hi']; rfl
        have := hT i hlt' u (by rw [hg]; exact h1) hu
        rw [hg] at this
        exact this.sta st (by omega)

/-- the builder, when all declarations are made -/
structure Blt (K : Cfg) (s : Gs) (w : World) (bb : Nat) : Prop where
  bi : BI K s w bb []
  dc : DclI K s w K.D.length
  er : ErrI K s w
  ii : II K s w []
  prp : Prp w
  gN : gP < K.N
  vd : ValidD K.D
  wd : wtD K.D ≤ 16777216
theorem DclI.nms {K : Cfg} {s : Gs} {w : World} (h : DclI K s w K.D.length) {n : Nat} {e : De} (he : K.D[n]? = some e) : ∃ u, s.nm n = some u := by
  have := h n e he
  rw [decide_eq_true (List.getElem?_eq_some_iff.1 he).1] at this
  cases this with
  | def1 b ob u ms y h1 h2 => exact ⟨_, h2⟩
  | al1 b ob v v1 y h1 h2 => exact ⟨_, h2⟩
theorem Blt.ctx {K : Cfg} {s : Gs} {w : World} {bb : Nat} (h : Blt K s w bb) : Ctx K.D K K.D.length s w bb [] := ⟨h.bi, fun _n _e he _ => h.dc.nms he, h.prp, h.gN, rfl, Nat.le_refl _⟩
theorem Blt.ext {K : Cfg} {s : Gs} {w w' : World} {bb : Nat} (x : Ext w w') (h : Blt K s w bb) : Blt K s w' bb :=
  ⟨h.bi.ext x, h.dc.sta (l := 0) (.of_ext x) (by omega), h.er.sta (l := 0) (.of_ext x) (by omega), fun c u hc => by
    obtain ⟨r1, r2⟩ := h.ii c u hc
    refine ⟨r1, fun hu => ?_⟩
    obtain ⟨p1, p2, p3⟩ := r2 hu
    refine ⟨p1, p2.ext x, ?_⟩
    exact .inl ((p3.resolve_right fun q => (by cases q.1)).sta (l := 0) (.of_ext x) (by omega)), h.prp.ext x, h.gN, h.vd, h.wd⟩
/-- the declarations -/
theorem c_of {K : Cfg} {s : Gs} {w : World} {bb : Nat} (h : Blt K s w bb) {p : Nat → Prop} {cs : List Value} {t : Ty} (ht : TyV w p cs t) (hp : ∀ b, p b → b < K.N ∧ b < w.heap.size) (hv : ∃ v, Shaped K.D K.D.length v t) (hlg : Legal K.D t) (hwt : wt t ≤ Big) :
    Calls Tryz.prog 45 #[pt bb, .agg cs.toArray] w (Ret fun r w' => ∃ s', s.gle s' ∧ Sta K 1 w w' ∧ Blt K s' w' bb ∧ RT K s' w' s'.sl r t ∧ IsI r) := by
  obtain ⟨a, cp, rfl, hts⟩ := ht.tys
  refine W.enter (args := [pt bb, .agg (tyl t.kind t.n t.count t.vr (.slice a t.elems.length cp) t.name t.tag t.emb).toArray]) Tryz.func45 rfl Tryz.ntmps45 rfl rfl ?_
  refine zst ?_
  refine WU.stp rfl rfl rfl (by first | exact stp_box rfl rfl | exact stp_box1 rfl rfl) ?_
  rintro _ w1 ⟨b1, rfl, n1⟩
  have ib1 := n1.has
  refine zst ?_
  have h1 := h.ext n1.ext
  have hask : Ask K.D K.D.length w1 K p (tyl t.kind t.n t.count t.vr (.slice a t.elems.length cp) t.name t.tag t.emb) t := ⟨(TyV.of_tys hts).ext n1.ext, fun b hb => ⟨(hp b hb).1, Nat.lt_of_lt_of_le (hp b hb).2 n1.ext.size⟩, hv, hlg⟩
  refine WU.stp rfl rfl rfl (stp_call rfl (c_typ' K.D K K.D.length t s w1 bb [] p _ h1.ctx hask (by simpa using hwt))) ?_
  rintro r w2 ⟨s', new, hm, hrt, hI⟩
  obtain ⟨T, rb, rfl⟩ := hI
  have hN1 : K.N ≤ w1.heap.size := by have := h1.bi.N; have := h1.bi.ex.choose_spec.choose_spec.choose_spec.choose_spec.1.lt; omega
  have hii := IIP.made h1.ii hm hN1
  have hd2 := (h1.dc.sta hm.sta (by omega)).gle hm.gle
  have he2 := (h1.er.sta hm.sta (by omega)).gle hm.gle
  have hp2 := h1.prp.sta hm.sta h.gN
  rw [List.nil_append] at hii
  have hbi := hm.bi
  rw [List.nil_append] at hbi
  have hln := hm.len
  have hsc := sc_of hbi hd2 he2 hii hp2 h.gN h.vd.sh h.wd
  replace hwt : wt t ≤ 268435456 := hwt
  refine zst ?_
  refine WU.stp rfl rfl rfl (stp_call rfl (c_complete hbi hsc hii (by omega))) ?_
  rintro _ w3 ⟨st3, hbi3, hii3⟩
  refine zst ?_
  have hs2 := hm.sta.size
  refine fin1 (.inl rfl) rfl rfl ⟨s'.clo w1.heap.size w2.heap.size, hm.gle.trans (Gs.gle_seal ..), ((Sta.of_ext n1.ext).trans (hm.sta.lev (by omega))).trans st3, ⟨hbi3.clo _ st3.size, (hd2.sta st3 (by omega)).gle (Gs.gle_seal ..), (he2.sta st3 (by omega)).gle (Gs.gle_seal ..), IIP.clo hii3 _ _, hp2.sta st3 h.gN, h.gN, h.vd, h.wd⟩, ?_, _, _, rfl⟩
  exact ((hrt.mono (q := (s'.clo w1.heap.size w2.heap.size).sl) fun d hd hpd => .inr ⟨hpd, hd⟩).le (Gs.gle_seal ..).le).sta st3 (by omega)
end Go.Proofs.YtpiegpegjbmlkaaGreatDoor
namespace Go.Proofs.YtpiegpegjbmlkaaGreatDoor
open Go Go.Kd
set_option maxRecDepth 100000

theorem MOk.tn {K : Cfg} {b : Nat} {pk v : Value} {nm : ByteArray} : MOk K 2 b tTN #[.int .i64 0, pk, .string nm, .nilIface] #[.int .i64 0, pk, .string nm, v] := ⟨rfl, fun i hi => by
  have h3 : i ≠ 3 := fun e => by
    subst e
    unfold mc at hi
    simp only [show ¬ tTN = tTY from by decide, show ¬ tTN = tIF from by decide, show ¬ tTN = tSG from by decide, show ¬ tTN = tNM from by decide, if_false, if_true] at hi
    simp [nilI] at hi
  match i, h3 with
  | 0, _ | 1, _ | 2, _ => rfl
  | i + 4, _ => rfl⟩
/-- only these two types' blocks turn -/
def NKept (w w' : World) : Prop := ∀ (d : Nat) (cs : Array Value) (t : TypeId), Has w d (.cells cs t (0, 0)) → t ≠ tNM → t ≠ tTN → Has w' d (.cells cs t (0, 0))
theorem c_newAlias (ob : Nat) (pk : Value) (nm : ByteArray) (T : Nat) (v : Value) (w : World) (h : TnV w ob pk nm .nilIface) :
    Calls Tryz.prog 110 #[.pointer none, pt ob, .iface T v] w (Ret fun r w' => ∃ b w1, r = pt b ∧ w.heap.size ≤ b ∧ Ext w w1 ∧ Upd w1 ob (.cells #[.int .i64 0, pk, .string nm, .iface tAL (pt b)] tTN) w' ∧ Has w' b (.cells #[pt ob, pt b, .iface T v, .nilIface] tAB)) := by
  have h' : Has w ob (.cells #[.int .i64 0, pk, .string nm, .nilIface] tTN) := h
  refine W.enter (args := [.pointer none, pt ob, .iface T v]) Tryz.func110 rfl Tryz.ntmps110 rfl rfl ?_
  refine zst ?_
  refine WU.stp rfl rfl rfl stp_alloc ?_
  rintro _ w1 ⟨b, rfl, n1⟩
  have ib1 : Has w1 b (.cells #[.pointer none, .pointer none, .nilIface, .nilIface] tAB) := n1.has
  have h1 := h'.ext' n1.ext
  have e1 := n1.num
  have hlt := h'.lt
  refine zst ?_
  refine WU.stp0 rfl rfl (stp_store_cell rfl rfl rfl rfl) ?_
  rintro _ w2 u2
  have ib2 : Has w2 b (.cells #[pt ob, .pointer none, .nilIface, .nilIface] tAB) := u2.has
  refine zst ?_
  refine WU.stp0 rfl rfl (stp_store_cell rfl rfl rfl rfl) ?_
  rintro _ w3 u3
  have ib3 : Has w3 b (.cells #[pt ob, pt b, .nilIface, .nilIface] tAB) := u3.has
  refine zst ?_
  refine WU.stp0 rfl rfl (stp_store_cell rfl rfl rfl rfl) ?_
  rintro _ w4 u4
  have ib4 : Has w4 b (.cells #[pt ob, pt b, .iface T v, .nilIface] tAB) := u4.has
  have x4 : Ext w w4 := (u4.ofNew (u3.ofNew (u2.ofNew n1))).ext
  have h4 : Has w4 ob (.cells #[.int .i64 0, pk, .string nm, .nilIface] tTN) := h'.ext' x4
  refine zst ?_
  refine WU.stp0 rfl rfl (stp_store_cell rfl rfl rfl rfl) ?_
  rintro _ w5 u5
  refine zst ?_
  exact fin1 (.inl rfl) rfl rfl ⟨b, w4, rfl, by omega, x4, u5, ⟨(u5.oth b (by omega)).trans ib4.at_⟩⟩

set_option maxHeartbeats 1000000 in
theorem c_unalias_new {K : Cfg} {s : Gs} {w : World} {i : Nat} {b : Nat} {ob og v0 : Value} {e0 : Ty} (hD : ShapedD K.D) (hd : DclI K s w i) (he : ErrI K s w) (hb : Has w b (.cells #[ob, og, v0, .nilIface] tAB)) (hr : RT K s w s.sl v0 e0) (hi : Rdy K i e0) :
    Calls Tryz.prog 146 #[pt b] w (Ret fun _ w' => ∃ T c y, Upd w b (.cells #[ob, og, v0, .iface T (pt c)] tAB) w' ∧ RT K s w s.sl (.iface T (pt c)) y ∧ isAl K.D y = false ∧ unaliasT K.D e0 = norm y ∧ Rdy K i y) := by
  refine W.enter (args := [pt b]) Tryz.func146 rfl Tryz.ntmps146 rfl rfl ?_
  refine zst ?_
  refine W.loop (σ := Nat × Nat × Value) (fun st => match st with
      | (0, _, v) => [(4, .pointer none), (3, v), (0, pt b)]
      | (_ + 1, x, _) => [(4, pt x), (0, pt b)])
    (fun st D' wk => D' = [] ∧ wk = w ∧ match st with
      | (0, _, v) => ∃ T c y, v = .iface T (pt c) ∧ RT K s w s.sl v y ∧ isAl K.D y = false ∧ unaliasT K.D e0 = norm y ∧ Rdy K i y
      | (m + 1, x, v) => ∃ a1 a2 a3 τ, Has w x (.cells #[a1, a2, v, a3] tAB) ∧ RT K s w s.sl v τ ∧ (isAl K.D τ = true → τ.n.toNat < m) ∧ unaliasT K.D τ = unaliasT K.D e0 ∧ Rdy K i τ)
    (fun st => st.1) (i + 1, b, v0) ⟨rfl, rfl, _, _, _, e0, hb, hr, fun ha => (hi (isAl_kind ha)).2.2, rfl, hi⟩ (by exact sub_of ⟨rfl, rfl, trivial⟩) ?_
  rintro ⟨m, x, v⟩ D' wk ⟨rfl, rfl, hst⟩
  cases m with
  | zero =>
    obtain ⟨T, c, y, rfl, h1, h2, h3, h4⟩ := hst
    refine zst ?_
    refine WU.stp0 rfl rfl (stp_store_cell rfl rfl rfl rfl) ?_
    rintro _ w2 u2
    refine zst ?_
    exact fin1 (.inl rfl) rfl rfl ⟨T, c, y, u2, h1, h2, h3, h4⟩
  | succ m =>
    obtain ⟨a1, a2, a3, τ, h1, h2, h3, h4, h5⟩ := hst
    cases ha : isAl K.D τ with
    | true =>
      have hk := isAl_kind ha
      obtain ⟨q0, q1, q2⟩ := h5 hk
      have hel := List.getElem?_eq_getElem q1
      have hal : (K.D[τ.n.toNat]).al = true := by rw [← isAl_n hk hel]; exact ha
      obtain ⟨b', ob', T, c, v1, y, rfl, k1, k2, k3, k4, k5, k6, k7⟩ := hd.al_ hel q2 hal (h2.nam hk)
      refine zst ?_
      refine ⟨(τ.n.toNat + 1, b', v1), by have := h3 ha; show τ.n.toNat + 1 < m + 1; omega, ⟨rfl, rfl, _, _, _, _, k2, k3, fun ha' => ?_, ?_, fun hk' => ?_⟩, sub_of ⟨rfl, rfl, trivial⟩⟩
      · have hs := (hD _ _ hel).shape
        have hk' := isAl_kind ha'
        have r1 := hs.nm hk' (.inl rfl)
        have r2 := hs.n0 (by rw [hk']; simp [limitN]; try omega)
        omega
      · rw [← h4, unalias_step hD hk hel hal]
      · have hs := (hD _ _ hel).shape
        have r1 := hs.nm hk' (.inl rfl)
        have r2 := hs.n0 (by rw [hk']; simp [limitN]; try omega)
        exact ⟨r2, by omega, by omega⟩
    | false =>
      obtain ⟨T, c, rfl, hT⟩ := h2.noAl hd he h5 ha
      have hT2 : Nat.beq T tAL = false := by
        rcases hT with h | rfl
        · exact h.ne.1
        · rfl
      refine zst ?_
      exact ⟨(0, x, .iface T (pt c)), by show 0 < m + 1; omega, ⟨rfl, rfl, T, c, τ, rfl, h2, ha, by rw [← h4, unalias_end ha], h5⟩, sub_of ⟨rfl, rfl, rfl, trivial⟩⟩
theorem c_cleanup (b : Nat) (w : World) (R : World → Prop) (h : Calls Tryz.prog 146 #[pt b] w (Ret fun _ w' => R w')) : Calls Tryz.prog 111 #[pt b] w (Ret fun _ w' => R w') := by
  refine W.enter (args := [pt b]) Tryz.func111 rfl Tryz.ntmps111 rfl rfl ?_
  refine zst ?_
  refine WU.stp rfl rfl rfl (stp_call rfl h) ?_
  rintro _ w' hR
  refine zst ?_
  exact fin0 (.inr rfl) rfl hR
/-- what is made stays, where neither named types nor the objects turn -/
theorem DclV.chg {K : Cfg} {l : Nat} {s : Gs} {w w' : World} (x : Sta K l w w') (hl : l ≤ 3) (hN : ∀ d cs, Has w d (.cells cs tNM) → Has w' d (.cells cs tNM)) {n : Nat} {e : De} {d : Bool} (h : DclV K s w n e d) : DclV K s w' n e d := by
  cases h with
  | def0 b ob h1 h2 h3 h4 h5 => exact .def0 b ob h1 h2 h3 (h4.sta x) (hN _ _ h5)
  | def1 b ob u ms y h1 h2 h3 h4 h5 h6 h7 h8 => exact (DclV.def1 b ob u ms y h1 h2 h3 h4 h5 h6 h7 h8).sta1 x hl
  | al0 h1 => exact .al0 h1
  | al1 b ob v v1 y h1 h2 h3 h4 h5 h6 h7 h8 h9 h10 h11 => exact (DclV.al1 b ob v v1 y h1 h2 h3 h4 h5 h6 h7 h8 h9 h10 h11).sta1 x hl
theorem DclI.chg {K : Cfg} {l : Nat} {s : Gs} {w w' : World} (x : Sta K l w w') (hl : l ≤ 3) (hN : ∀ d cs, Has w d (.cells cs tNM) → Has w' d (.cells cs tNM)) {i : Nat} (h : DclI K s w i) : DclI K s w' i := fun n e he => (h n e he).chg x hl hN
/-- an alias is made -/
theorem c_NewAlias {K : Cfg} {s : Gs} {w : World} {i : Nat} {ob : Nat} {pk : Value} {nm : ByteArray} {T c : Nat} {e0 : Ty} (hD : ShapedD K.D) (hd : DclI K s w i) (he : ErrI K s w) (h : TnV w ob pk nm .nilIface) (hN : K.N ≤ ob) (hr : RT K s w s.sl (.iface T (pt c)) e0) (hi : Rdy K i e0) (hsl : ∀ d, s.sl d → d < w.heap.size) :
    Calls Tryz.prog 78 #[pt ob, .iface T (pt c)] w (Ret fun r w' => ∃ b T' c' y, r = pt b ∧ w.heap.size ≤ b ∧ Has w' b (.cells #[pt ob, pt b, .iface T (pt c), .iface T' (pt c')] tAB) ∧ TnV w' ob pk nm (.iface tAL (pt b)) ∧ Sta K 2 w w' ∧
      (∀ d, d < w.heap.size → d ≠ ob → w'.heap[d]? = w.heap[d]?) ∧ RT K s w' s.sl (.iface T' (pt c')) y ∧ isAl K.D y = false ∧ unaliasT K.D e0 = norm y ∧ Rdy K i y) := by
  have h' : Has w ob (.cells #[.int .i64 0, pk, .string nm, .nilIface] tTN) := h
  have hlt := h'.lt
  refine W.enter (args := [pt ob, .iface T (pt c)]) Tryz.func78 rfl Tryz.ntmps78 rfl rfl ?_
  refine zst ?_
  refine WU.stp rfl rfl rfl (stp_call rfl (c_newAlias ob pk nm T (pt c) w h)) ?_
  rintro _ w2 ⟨b, w1, rfl, hge, x1, u2, hb2⟩
  have ho1 := h'.ext' x1
  have st2 : Sta K 2 w w2 := (Sta.of_ext x1).trans (.of_upd ho1 u2 hN MOk.tn)
  have hoth2 : ∀ d, d < w.heap.size → d ≠ ob → w2.heap[d]? = w.heap[d]? := fun d hd hne => (u2.oth d hne).trans (x1.below.block d hd)
  have hd2 : DclI K s w2 i := hd.chg st2 (by omega) fun d cs hh => ⟨(hoth2 d hh.lt (Has.tne hh h' (by decide))).trans hh.at_⟩
  have he2 := he.sta st2 (by omega)
  refine zst ?_
  refine WU.stp rfl rfl rfl (stp_call rfl (c_cleanup b w2 _ (c_unalias_new hD hd2 he2 hb2 (hr.sta st2 (by omega)) hi))) ?_
  rintro _ w3 ⟨T', c', y, u3, k1, k2, k3, k4⟩
  refine zst ?_
  have hs1 := x1.size
  have hs2 := u2.size
  have st3 : Sta K 2 w w3 := st2.upd_new u3 hge
  refine fin1 (.inl rfl) rfl rfl ⟨b, T', c', y, rfl, hge, u3.has, ⟨(u3.oth ob (by omega)).trans u2.has.at_⟩, st3, fun d hd hne => (u3.oth d (by omega)).trans (hoth2 d hd hne), ?_, k2, k3, k4⟩
  exact k1.same fun d hd => u3.oth d (by have := hsl d hd; omega)
end Go.Proofs.YtpiegpegjbmlkaaGreatDoor

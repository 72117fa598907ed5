/- The walks and the plain laws, part 5. -/
import Derived.Test.YtpiegpegjbmlkaaGreatDoorZ4
import Derived.Test.YtpiegpegjbmlkaaGreatDoorCards
import Derived.OpenShut
import Derived.Test.YtpiegpegjbmlkaaGreatDoorZ2
import Derived.Test.YtpiegpegjbmlkaaGreatDoorZ1
import Derived.Lib.Strings
namespace Go.Proofs.YtpiegpegjbmlkaaGreatDoor
open Go Go.Kd
set_option maxRecDepth 100000

abbrev tPT : Nat := 201
abbrev tPP : Nat := 128
/-- a method of a declared type: block f; b: the type's block -/
def MeO (K : Cfg) (s : Gs) (w : World) (b : Nat) (e : De) (m : Me) (f : Nat) : Prop := ∃ sb rv ps rs pkv rt kd, FuncV w f (s.pk e.pkg) m.fn.name (.iface tSP (pt sb)) ∧ RT K s w s.sl (.iface tSP (pt sb)) m.fn ∧ Has w sb (.cells #[pt rv, .pointer none, ps, rs, .bool m.fn.vr] tSG) ∧ VarV w rv pkv eB rt kd false ∧
  (m.ptr = false → rt = .iface tNP (pt b)) ∧ (m.ptr = true → ∃ pb, rt = .iface tPP (pt pb) ∧ Has w pb (.cells #[.iface tNP (pt b)] tPT))
theorem Has.staS {K : Cfg} {l : Nat} {w w' : World} {b : Nat} {cs : Array Value} (x : Sta K l w w') (hl : l ≤ 2) (h : Has w b (.cells cs tSG)) : Has w' b (.cells cs tSG) := by
  obtain ⟨cs', k1, k2⟩ := x.has (by decide) h
  have : cs' = cs := by
    apply Array.ext_getElem?
    intro i
    exact k2.cell i (by
      unfold mc
      simp only [show ¬ tSG = tTY from by decide, show ¬ tSG = tIF from by decide, if_false, if_true]
      simp
      omega)
  rw [← this]; exact k1
theorem MeO.sta {K : Cfg} {l : Nat} {s : Gs} {w w' : World} (x : Sta K l w w') (hl : l ≤ 2) {b : Nat} {e : De} {m : Me} {f : Nat} (h : MeO K s w b e m f) : MeO K s w' b e m f := by
  obtain ⟨sb, rv, ps, rs, pkv, rt, kd, h1, h2, h3, h4, h5, h6⟩ := h
  exact ⟨sb, rv, ps, rs, pkv, rt, kd, h1.sta x, h2.sta x (by omega), Has.staS x hl h3, h4.sta x, h5, fun hm => by
    obtain ⟨pb, k1, k2⟩ := h6 hm
    exact ⟨pb, k1, Has.sta x k2⟩⟩
theorem MeO.sle {K : Cfg} {s s' : Gs} {w : World} (l : s.sle s') {b : Nat} {e : De} {m : Me} {f : Nat} (h : MeO K s w b e m f) : MeO K s' w b e m f := by
  obtain ⟨sb, rv, ps, rs, pkv, rt, kd, h1, h2, h3, h4, h5, h6⟩ := h
  exact ⟨sb, rv, ps, rs, pkv, rt, kd, by rw [l.le.pk]; exact h1, h2.sle l, h3, h4, h5, h6⟩
theorem NamV.sta1 {K : Cfg} {l : Nat} {w w' : World} (x : Sta K l w w') (hl : l ≤ 1) {b : Nat} {obj u ms : Value} (h : NamV w b obj u ms) : NamV w' b obj u ms := by
  obtain ⟨cs', k1, k2⟩ := x.has (by decide) h
  have : cs' = nmc obj false 0 15 u u ms := by
    apply Array.ext_getElem?
    intro i
    exact k2.cell i (by
      unfold mc
      simp only [show ¬ tNM = tTY from by decide, show ¬ tNM = tIF from by decide, show ¬ tNM = tSG from by decide, if_false, if_true]
      rw [decide_eq_false (by omega)]
      rfl)
  unfold NamV
  rw [← this]; exact k1
/-- the methods that the declared types have so far -/
structure MsI (K : Cfg) (s : Gs) (w : World) (base : Nat) (cnt : Nat → Nat) (msv : Nat → Value) (mfb : Nat → List Nat) : Prop where
  nam : ∀ (n : Nat) e, K.D[n]? = some e → e.al = false → ∃ b ob T ub, s.nm n = some (.iface tNP (pt b)) ∧ s.g b = some (tN n) ∧ NamV w b (pt ob) (.iface T (pt ub)) (msv n) ∧ TnV w ob (s.pk e.pkg) e.name (.iface tNP (pt b)) ∧ Own w base tFN 1 (msv n) ((mfb n).map fun b => [pt b]) ∧ (mfb n).length = cnt n ∧ cnt n ≤ e.ms.length ∧
    ∀ (q : Nat) m f, e.ms[q]? = some m → (mfb n)[q]? = some f → MeO K s w b e m f
  dis : ∀ n n' g, n ≠ n' → (msv n).ownBlock = some g → (msv n').ownBlock ≠ some g
  sl : ∀ n d, s.sl d → (msv n).ownBlock ≠ some d
  lt : ∀ n g, (msv n).ownBlock = some g → base ≤ g ∧ g < w.heap.size
theorem MsI.sta {K : Cfg} {l : Nat} {s : Gs} {w w' : World} (x : Sta K l w w') (hl : l ≤ 1) {base : Nat} {cnt : Nat → Nat} {msv : Nat → Value} {mfb : Nat → List Nat} (h : MsI K s w base cnt msv mfb) : MsI K s w' base cnt msv mfb := ⟨fun n e he ha => by
  obtain ⟨b, ob, T, ub, h1, h2, h3, h4, h5, h6, h7, h8⟩ := h.nam n e he ha
  exact ⟨b, ob, T, ub, h1, h2, h3.sta1 x hl, h4.sta x, Own.sta x h5, h6, h7, fun q m f k1 k2 => (h8 q m f k1 k2).sta x (by omega)⟩, h.dis, h.sl, fun n g hg => ⟨(h.lt n g hg).1, Nat.lt_of_lt_of_le (h.lt n g hg).2 x.size⟩⟩
theorem MsI.ext {K : Cfg} {s : Gs} {w w' : World} (x : Ext w w') {base : Nat} {cnt : Nat → Nat} {msv : Nat → Value} {mfb : Nat → List Nat} (h : MsI K s w base cnt msv mfb) : MsI K s w' base cnt msv mfb := h.sta (l := 0) (.of_ext x) (by omega)
theorem MsI.gle {K : Cfg} {s s' : Gs} {w : World} (l : s.gle s') {base : Nat} {cnt : Nat → Nat} {msv : Nat → Value} {mfb : Nat → List Nat} (hs : ∀ d, s'.sl d → s.sl d ∨ ∀ n, (msv n).ownBlock ≠ some d) (h : MsI K s w base cnt msv mfb) : MsI K s' w base cnt msv mfb := ⟨fun n e he ha => by
  obtain ⟨b, ob, T, ub, h1, h2, h3, h4, h5, h6, h7, h8⟩ := h.nam n e he ha
  exact ⟨b, ob, T, ub, by rw [l.nm]; exact h1, l.g _ _ h2, h3, by rw [l.pk]; exact h4, h5, h6, h7, fun q m f k1 k2 => (h8 q m f k1 k2).sle l.sle⟩, h.dis, fun n d hd => (hs d hd).elim (h.sl n d) fun k => k n, h.lt⟩

/-! ### One more method -/
section
variable {K : Cfg} {s : Gs} {w w' : World} {b base : Nat} {ob u ms ms' : Value} {fbs : List Nat}
/-- named type b has one more method -/
structure AddC (K : Cfg) (w w' : World) (b base : Nat) (ob u ms ms' : Value) (fbs : List Nat) : Prop where
  hb : NamV w b ob u ms
  hb' : NamV w' b ob u ms'
  ho : Own w base tFN 1 ms (fbs.map fun b => [pt b])
  ad : Add w w' b ms ms'
  hu : ∃ T ub, u = .iface T (pt ub)
theorem AddC.tr (h : AddC K w w' b base ob u ms ms' fbs) {p : Nat → Prop} (hp : ∀ d, p d → ms.ownBlock ≠ some d) : Tr K w w' p p := ⟨fun d cs t hpd _ hd => by
  refine ⟨hpd, ?_⟩
  by_cases hdb : d = b
  · subst hdb
    have e := hd.at_.symm.trans h.hb.at_
    simp only [Option.some.injEq, Obj.cells.injEq, and_true] at e
    obtain ⟨rfl, rfl⟩ := e
    obtain ⟨T, ub, rfl⟩ := h.hu
    exact ⟨_, h.hb', rfl, fun i hi => by
      unfold mc at hi
      simp only [show ¬ tNM = tTY from by decide, show ¬ tNM = tIF from by decide, show ¬ tNM = tSG from by decide, if_false, if_true] at hi
      simp [nilI] at hi
      match i, hi with
      | 0, _ | 1, _ | 2, _ | 3, _ | 4, _ | 5, _ | 6, _ | 7, _ | 8, _ => rfl
      | i + 10, _ => rfl⟩
  · exact ⟨cs, ⟨(h.ad.oth d hd.lt hdb (hp d hpd)).trans hd.at_⟩, .rfl' ..⟩⟩
theorem AddC.has (h : AddC K w w' b base ob u ms ms' fbs) {d : Nat} {cs : Array Value} {t : TypeId} (h1 : t ≠ tNM) (h2 : t ≠ tFN) (hd : Has w d (.cells cs t)) : Has w' d (.cells cs t) :=
  ⟨(h.ad.oth d hd.lt (Has.tne hd h.hb h1) fun e => Own.ne h.ho hd h2 d e rfl).trans hd.at_⟩
theorem AddC.nam (h : AddC K w w' b base ob u ms ms' fbs) {c : Nat} {ob2 u2 ms2 : Value} (hc : NamV w c ob2 u2 ms2) : ∃ ms3, NamV w' c ob2 u2 ms3 ∧ (c ≠ b → ms3 = ms2) := by
  by_cases hcb : c = b
  · subst hcb
    have e := hc.at_.symm.trans h.hb.at_
    simp only [Option.some.injEq, Obj.cells.injEq, and_true] at e
    have e2 := congrArg Array.toList e
    simp only [List.cons.injEq, and_true, true_and] at e2
    obtain ⟨rfl, rfl, _⟩ := e2
    exact ⟨ms', h.hb', fun k => absurd rfl k⟩
  · exact ⟨ms2, ⟨(h.ad.oth c hc.lt hcb fun e => Own.ne h.ho hc (by decide) c e rfl).trans hc.at_⟩, fun _ => rfl⟩
theorem AddC.fresh (h : AddC K w w' b base ob u ms ms' fbs) {c : Nat} {t : Ty} (hf : Fresh w c t) : Fresh w' c t := by
  have key : ∀ ts, IfT w c ts → IfT w' c ts := fun ts ⟨ma, mn, mc, ea, en, ec, hh⟩ => ⟨ma, mn, mc, ea, en, ec, h.has (by decide) (by decide) hh⟩
  rcases hf with hf | ⟨⟨tb, v, h1, h2, a, c', tb', h3, h4, h5⟩, h6⟩
  · exact .inl (key _ hf)
  · exact .inr ⟨⟨tb, v, key _ h1, h.has (by decide) (by decide) h2, a, c', tb', h3, fun i hi => by
      obtain ⟨b, cs, k1, k2, k3⟩ := h4 i hi
      exact ⟨b, cs, k1, h.has (by decide) (by decide) k2, k3⟩, h.has (by decide) (by decide) h5⟩, h6⟩
theorem BL.add {P : Nat → Prop} {bb : Nat} {md : List Nat} (h : BL K P s w bb md) (a : AddC K w w' b base ob u ms ms' fbs) (hP : ∀ d, P d → ms.ownBlock ≠ some d) (hsl : ∀ d, s.sl d → ms.ownBlock ≠ some d) (hbN : K.N ≤ b) (hbase : K.N ≤ base) : BL K P s w' bb md :=
  ⟨h.bi.keep a.ad.size (fun d cs t hd ht => (by
    have h1 := a.has (d := d) (cs := cs) (t := t) (by rcases ht with rfl | ⟨rfl, _⟩ | rfl | rfl <;> decide) (by rcases ht with rfl | ⟨rfl, _⟩ | rfl | rfl <;> decide) ⟨hd⟩
    exact h1.at_.trans hd.symm)) fun _ _ hr => hr.tr (a.tr hsl), by
    obtain ⟨v, cs, h1, h2, h3, h4⟩ := h.nr
    exact ⟨v, cs, a.has (by decide) (by decide) h1, a.has (by decide) (by decide) h2, h3, h4⟩, by
    obtain ⟨b2, ob2, u2, ms2, nm, h1, h2, h3, h4, h5⟩ := h.er
    obtain ⟨ms3, h6, _⟩ := a.nam h4
    exact ⟨b2, ob2, u2, ms3, nm, h1, h2, a.has (by decide) (by decide) h3, h6, h5.tr (a.tr hsl)⟩, fun c t hc => by
    obtain ⟨r1, r2⟩ := h.ii c t hc
    refine ⟨r1, fun hu => ?_⟩
    obtain ⟨p1, p2, p3⟩ := r2 hu
    exact ⟨p1, p2.tr (a.tr hsl), p3.imp (fun k => k.tr (a.tr hP) (a.tr hsl)) fun k => ⟨k.1, a.fresh k.2⟩⟩, h.prp.same (a.ad.oth gP h.prp.lt (by have := h.gN; omega) fun e => by have := (a.ho.lt gP e).1; have := h.gN; omega), h.gN, h.vd, h.wd⟩
theorem DclI.add (h : DclI K s w K.D.length) (a : AddC K w w' b base ob u ms ms' fbs) (hsl : ∀ d, s.sl d → ms.ownBlock ≠ some d) : DclI K s w' K.D.length := fun n e he => by
  have hn := h n e he
  rw [decide_eq_true (List.getElem?_eq_some_iff.1 he).1] at hn ⊢
  cases hn with
  | def1 b2 ob2 u2 ms2 y h1 h2 h3 h4 h5 h6 h7 h8 =>
    obtain ⟨ms3, h9, _⟩ := a.nam h5
    exact .def1 b2 ob2 u2 ms3 y h1 h2 h3 (a.has (by decide) (by decide) h4) h9 (h6.tr (a.tr hsl)) h7 h8
  | al1 b2 ob2 v v1 y h1 h2 h3 h4 h5 h6 h7 h8 h9 h10 h11 => exact .al1 b2 ob2 v v1 y h1 h2 (a.has (by decide) (by decide) h3) (a.has (by decide) (by decide) h4) (h5.tr (a.tr hsl)) h6 (h7.tr (a.tr hsl)) h8 h9 h10 h11
theorem MeO.add (a : AddC K w w' b base ob u ms ms' fbs) (hsl : ∀ d, s.sl d → ms.ownBlock ≠ some d) {b2 : Nat} {e : De} {m : Me} {f : Nat} (h : MeO K s w b2 e m f) : MeO K s w' b2 e m f := by
  obtain ⟨sb, rv, ps, rs, pkv, rt, kd, h1, h2, h3, h4, h5, h6⟩ := h
  exact ⟨sb, rv, ps, rs, pkv, rt, kd, a.has (by decide) (by decide) h1, h2.tr (a.tr hsl), a.has (by decide) (by decide) h3, a.has (by decide) (by decide) h4, h5, fun hm => by
    obtain ⟨pb, k1, k2⟩ := h6 hm
    exact ⟨pb, k1, a.has (by decide) (by decide) k2⟩⟩
/-- declared type i has one more method -/
theorem MsI.add {cnt : Nat → Nat} {msv : Nat → Value} {mfb : Nat → List Nat} (h : MsI K s w base cnt msv mfb) {i : Nat} {e : De} (he : K.D[i]? = some e) (hi : s.nm i = some (.iface tNP (pt b))) (hgb : s.g b = some (tN i)) (a : AddC K w w' b base ob u (msv i) ms' (mfb i)) {f : Nat} {m : Me} (hm : e.ms[cnt i]? = some m)
    (ho' : Own w' base tFN 1 ms' (((mfb i) ++ [f]).map fun b => [pt b])) (hf : MeO K s w b e m f) (hszs : ∀ d, s.sl d → d < w.heap.size) : MsI K s w' base (fun n => if n = i then cnt i + 1 else cnt n) (fun n => if n = i then ms' else msv n) (fun n => if n = i then mfb i ++ [f] else mfb n) := by
  have hsl := h.sl i
  refine ⟨fun n e2 he2 ha2 => ?_, fun n n' g hne hg hg' => ?_, fun n d hd hg => ?_, fun n g hg => ?_⟩
  · obtain ⟨b2, ob2, T, ub, h1, h2, h3, h4, h5, h6, h7, h8⟩ := h.nam n e2 he2 ha2
    by_cases hni : n = i
    · subst hni
      rw [he] at he2
      cases he2
      rw [hi] at h1
      cases h1
      obtain ⟨ms3, k1, _⟩ := a.nam h3
      have hlt := (List.getElem?_eq_some_iff.1 hm).1
      have e3 := k1.at_.symm.trans a.hb'.at_
      simp only [Option.some.injEq, Obj.cells.injEq, and_true] at e3
      have e4 := congrArg Array.toList e3
      simp only [List.cons.injEq, and_true, true_and] at e4
      obtain ⟨e5, e6, _, e7⟩ := e4
      simp only [if_true]
      refine ⟨b, ob2, T, ub, hi, h2, by rw [← e7]; exact k1, a.has (by decide) (by decide) h4, ho', by rw [List.length_append, h6]; rfl, by omega, fun q m' f' hq hf' => ?_⟩
      by_cases hqc : q < cnt n
      · rw [List.getElem?_append_left (by omega)] at hf'
        exact (h8 q m' f' hq hf').add a hsl
      · have hq2 : q = cnt n := by
          have := (List.getElem?_eq_some_iff.1 hf').1
          rw [List.length_append, h6] at this
          simp at this
          omega
        subst hq2
        rw [List.getElem?_append_right (by omega), h6, Nat.sub_self] at hf'
        simp at hf'
        subst hf'
        rw [hm] at hq
        cases hq
        exact hf.add a hsl
    · simp only [hni, if_false]
      have hb2 : b2 ≠ b := fun e => by
        subst e
        rw [hgb] at h2
        exact hni (tN_inj (Option.some.inj h2)).symm
      obtain ⟨ms3, k1, k2⟩ := a.nam h3
      rw [k2 hb2] at k1
      exact ⟨b2, ob2, T, ub, h1, h2, k1, a.has (by decide) (by decide) h4, h5.kept fun g hg => a.ad.oth g (h5.lt g hg).2 (fun e => by
        obtain ⟨cs, q1⟩ := Own.cellsOf h5 g hg
        exact Has.tne q1 a.hb (by decide) e) fun e => h.dis n i g hni hg e, h6, h7, fun q m' f' hq hf' => (h8 q m' f' hq hf').add a hsl⟩
  · by_cases hni : n = i
    · simp only [hni, if_true] at hg
      have hn' : n' ≠ i := fun e => hne (by rw [hni, e])
      simp only [hn', if_false] at hg'
      rcases a.ad.own g hg with k | k
      · exact h.dis i n' g (Ne.symm hn') k hg'
      · have := (h.lt n' g hg').2
        omega
    · simp only [hni, if_false] at hg
      by_cases hn' : n' = i
      · simp only [hn', if_true] at hg'
        rcases a.ad.own g hg' with k | k
        · exact h.dis n i g hni hg k
        · have := (h.lt n g hg).2
          omega
      · simp only [hn', if_false] at hg'
        exact h.dis n n' g hne hg hg'
  · by_cases hni : n = i
    · simp only [hni, if_true] at hg
      rcases a.ad.own d hg with k | k
      · exact h.sl i d hd k
      · have := hszs d hd
        omega
    · simp only [hni, if_false] at hg
      exact h.sl n d hd hg
  · by_cases hni : n = i
    · simp only [hni, if_true] at hg
      exact ho'.lt g hg
    · simp only [hni, if_false] at hg
      exact ⟨(h.lt n g hg).1, Nat.lt_of_lt_of_le (h.lt n g hg).2 a.ad.size⟩
end
end Go.Proofs.YtpiegpegjbmlkaaGreatDoor
namespace Go.Kd
theorem W.join {P : Program} {n : Nat} {Q : Post} {D : List Deferred} {e : Env} {w : World} {x : Code} {K : List Deferred → Env → World → Prop} (I : Env → World → Prop) (h1 : W P n x (fun x' D' e' w' => x' = .normal ∧ D' = [] ∧ I e' w') D e w) (h2 : ∀ e' w', I e' w' → K [] e' w') : W P n x (thn K Q) D e w :=
  h1.mono fun x' D' e' w' ⟨hx, hD, hI⟩ => by subst hx hD; exact h2 e' w' hI
end Go.Kd
namespace Go.Proofs.YtpiegpegjbmlkaaGreatDoor
open Go Go.Kd
set_option maxRecDepth 100000

theorem wtM_take {l : List Me} {j : Nat} {m : Me} (h : l[j]? = some m) : wtM (l.take j) + wt m.fn = wtM (l.take (j + 1)) := by
  rw [List.take_add_one, h, Option.toList_some]
  unfold wtM
  simp
theorem wtM_le (l : List Me) (j : Nat) : wtM (l.take j) ≤ wtM l := by
  have : wtM (l.take j) + wtM (l.drop j) = wtM l := by
    conv => rhs; rw [← List.take_append_drop j l]
    unfold wtM
    rw [List.map_append, List.sum_append]
  omega
theorem Below.sta {K : Cfg} {l : Nat} {w0 w w' : World} (h : RowKit.Below K.N w0 w) (x : Sta K l w w') (hN : K.N ≤ w.heap.size) : RowKit.Below K.N w0 w' := h.trans ⟨x.os, x.tape, x.output, x.size, fun d hd => x.old d hd (by omega)⟩
theorem Below.ext' {N : Nat} {w0 w w' : World} (h : RowKit.Below N w0 w) (x : Ext w w') (hN : N ≤ w.heap.size) : RowKit.Below N w0 w' := bel_ext h x hN
/-- how many methods a declared type has -/
def lenM (D : List De) (n : Nat) : Nat := ((D[n]?).map fun e => e.ms.length).getD 0
theorem lenM_at {D : List De} {n : Nat} {e : De} (h : D[n]? = some e) : lenM D n = e.ms.length := by unfold lenM; rw [h]; rfl
/-- .. as far as they are made -/
def cntM (D : List De) (i j n : Nat) : Nat := if n < i then lenM D n else if n = i then j else 0
/-- the state when methods are declared -/
structure MSt (K : Cfg) (P : Nat → Prop) (s0 : Gs) (w0 : World) (bb base i j : Nat) (wk : World) (s : Gs) (made : List Nat) (msv : Nat → Value) (mfb : Nat → List Nat) : Prop where
  bel : RowKit.Below K.N w0 wk
  bl : BL K P s wk bb made
  dc : DclI K s wk K.D.length
  ms : MsI K s wk base (cntM K.D i j) msv mfb
  nm : s.nm = s0.nm
  bs : base ≤ wk.heap.size
section
variable {K : Cfg} {P : Nat → Prop} {s0 : Gs} {w0 wk w' : World} {bb base i j : Nat} {s : Gs} {md : List Nat} {msv : Nat → Value} {mfb : Nat → List Nat}
theorem MSt.ext (x : Ext wk w') (h : MSt K P s0 w0 bb base i j wk s md msv mfb) : MSt K P s0 w0 bb base i j w' s md msv mfb :=
  ⟨bel_ext h.bel x h.bl.hN, h.bl.ext x, h.dc.sta (l := 0) (.of_ext x) (by omega), h.ms.ext x, h.nm, Nat.le_trans h.bs x.size⟩
theorem MSt.made {s' : Gs} {n : Nat} {new : List Nat} (h : MSt K P s0 w0 bb base i j wk s md msv mfb) (m : Made K s wk bb md n s' new w') : MSt K P s0 w0 bb base i j w' (s'.clo wk.heap.size w'.heap.size) (md ++ new) msv mfb := by
  have hg : s.gle (s'.clo wk.heap.size w'.heap.size) := m.gle.trans (Gs.gle_seal ..)
  have hown : ∀ n d, wk.heap.size ≤ d → (msv n).ownBlock ≠ some d := fun n d hd e => by
    have := (h.ms.lt n d e).2
    omega
  exact ⟨Below.sta h.bel m.sta h.bl.hN, (h.bl.made m).clo _ (Nat.le_refl _), (h.dc.sta m.sta (by omega)).gle hg, (h.ms.sta m.sta (by omega)).gle hg fun d hd => hd.elim (fun hd => (m.sn d hd).imp id fun k n => hown n d k.1) fun k => .inr fun n => hown n d k.1, by
    show s'.nm = s0.nm
    rw [m.gle.nm]; exact h.nm, Nat.le_trans h.bs m.sta.size⟩
/-- one more method -/
theorem MSt.add {b ob f : Nat} {u ms' : Value} {e : De} {m : Me} (h : MSt K P s0 w0 bb base i j wk s md msv mfb) (he : K.D[i]? = some e) (hi : s.nm i = some (.iface tNP (pt b))) (hgb : s.g b = some (tN i)) (hm : e.ms[j]? = some m)
    (a : AddC K wk w' b base (pt ob) u (msv i) ms' (mfb i)) (ho' : Own w' base tFN 1 ms' (((mfb i) ++ [f]).map fun b => [pt b])) (hf : MeO K s wk b e m f) (hP : ∀ d, P d → d < base) (hbase : K.N ≤ base) :
    MSt K P s0 w0 bb base i (j + 1) w' s md (fun n => if n = i then ms' else msv n) (fun n => if n = i then mfb i ++ [f] else mfb n) := by
  have hsl : ∀ d, s.sl d → (msv i).ownBlock ≠ some d := h.ms.sl i
  have hbN : K.N ≤ b := (h.bl.ii b _ hgb).1
  have hPn : ∀ d, P d → (msv i).ownBlock ≠ some d := fun d hd e => by
    have := hP d hd
    have := (a.ho.lt d e).1
    omega
  have hN := h.bl.hN
  have hc : cntM K.D i j i = j := by unfold cntM; simp
  have h1 := h.ms.add he hi hgb a (by rw [hc]; exact hm) ho' hf h.bl.bi.sll
  have hce : (fun n => if n = i then cntM K.D i j i + 1 else cntM K.D i j n) = cntM K.D i (j + 1) := by
    funext n
    unfold cntM
    by_cases hni : n = i
    · subst hni; simp
    · simp [hni]
  rw [hce] at h1
  exact ⟨h.bel.trans ⟨a.ad.os, a.ad.tape, a.ad.output, a.ad.size, fun d hd => a.ad.oth d (by omega) (by omega) fun e => by have := (a.ho.lt d e).1; omega⟩, h.bl.add a hPn hsl hbN hbase, h.dc.add a hsl, h1, h.nm, Nat.le_trans h.bs a.ad.size⟩
end
theorem IIP.all {K : Cfg} {s : Gs} {w : World} {P : Nat → Prop} {made : List Nat} (h : IIP K s w P made) : II K s w made := fun c u hc => by
  obtain ⟨r1, r2⟩ := h c u hc
  refine ⟨r1, fun hu => ?_⟩
  obtain ⟨p1, p2, p3⟩ := r2 hu
  exact ⟨p1, p2, p3.imp (fun k => k.tr (.mono fun _ _ _ => trivial) (.mono fun _ _ h => h)) id⟩
theorem cntM_end {D : List De} {i : Nat} {e : De} (h : D[i]? = some e) : cntM D i e.ms.length = cntM D (i + 1) 0 := by
  funext n
  unfold cntM
  by_cases h1 : n < i
  · rw [if_pos h1, if_pos (by omega)]
  · by_cases h2 : n = i
    · subst h2; rw [if_neg (by omega), if_pos rfl, if_pos (by omega), lenM_at h]
    · rw [if_neg h1, if_neg h2, if_neg (by omega)]
      by_cases h3 : n = i + 1
      · rw [if_pos h3]
      · rw [if_neg h3]
/-- what build answers -/
def BuildR (K : Cfg) (s0 : Gs) (w0 : World) (bb base : Nat) (r : Value) (w' : World) : Prop := ∃ s msv mfb, r = pt bb ∧ RowKit.Below K.N w0 w' ∧ Blt K s w' bb ∧ MsI K s w' base (cntM K.D K.D.length 0) msv mfb ∧ s.nm = s0.nm

set_option maxHeartbeats 8000000 in
theorem build4 {K : Cfg} {P : Nat → Prop} {s0 : Gs} {w0 : World} {bb : Nat} {made0 : List Nat} {a : Option Addr} {cp : Nat} {p : Nat → Prop} (hbl0 : BL K P s0 w0 bb made0) (hdc0 : DclI K s0 w0 K.D.length) (hms0 : MsI K s0 w0 w0.heap.size (cntM K.D 0 0) (fun _ => .slice none 0 0) (fun _ => []))
    (hP : ∀ d, P d → d < w0.heap.size) (hln0 : made0.length ≤ wtD K.D) (hd : DsV w0 p (.slice a K.D.length cp) K.D) (hp : ∀ b, p b → b < K.N) :
    ∃ c, dropA 15 (bodyA Tryz.f44) = some c ∧ W Tryz.prog 148 c (fin Tryz.prog Tryz.f44 (Ret (BuildR K s0 w0 bb w0.heap.size))) [] [(0, .slice a K.D.length cp), (3, pt bb)] w0 := by
  have hDl : K.D.length ≤ 16777216 := by
    have h1 : ∀ D : List De, D.length ≤ wtD D := fun D => by
      induction D with
      | nil => exact Nat.zero_le _
      | cons e r ih =>
        have := wtD_app [e] r
        have h2 : 1 ≤ wtD [e] := by unfold wtD wtDe; have := wt_pos e.ty; simp; omega
        simp only [List.length_cons]
        rw [List.singleton_append] at this
        omega
    have := h1 K.D
    have := hbl0.wd
    omega
  have hwd := hbl0.wd
  have hN0 := hbl0.hN
  refine ⟨_, rfl, ?_⟩
  refine zst ?_
  refine W.loop (σ := Nat) (fun k => [(88, .int .i64 k), (87, .int .i64 K.D.length), (86, .slice a K.D.length cp), (3, pt bb)])
    (fun k D' wk => D' = [] ∧ k ≤ K.D.length ∧ ∃ s made msv mfb, MSt K P s0 w0 bb w0.heap.size k 0 wk s made msv mfb ∧ made.length ≤ wtD K.D + wtD (K.D.take k))
    (fun k => K.D.length - k) 0 ⟨rfl, Nat.zero_le _, s0, made0, _, _, ⟨RowKit.Below.refl _ _, hbl0, hdc0, hms0, rfl, Nat.le_refl _⟩, by omega⟩ (by exact sub_of ⟨rfl, rfl, rfl, rfl, trivial⟩) ?_
  rintro i D' wk ⟨rfl, hi, s, made, msv, mfb, hS, hlnk⟩
  refine zst ?_
  by_cases hlt : i < K.D.length
  · rw [show decide ((i : Int) < (K.D.length : Int)) = true by simpa using hlt]
    have he := List.getElem?_eq_getElem hlt
    generalize K.D[i] = e at he
    obtain ⟨b, o, a3, c3, a4, c4, f, rfl, hpb, hc, hte, hms1, hms2⟩ := hd.next he
    have hme : MesV w0 p a4 e.ms := ⟨f, hms1, hms2⟩
    have hck : Cells wk b (o + i * 12) (del e a3 c3 a4 c4) := Cells.sameB (hS.bel.block b (hp b hpb)) hc
    have hmh := hbl0.vd.ms i e he
    have hpkg := hbl0.vd.pkg i e he
    have hwe := wtD_take he
    have hwl := wtD_le K.D (i + 1)
    refine zst ?_
    refine WU.yld rfl rfl rfl (yld_load_cells rfl hck) ?_
    refine WU.stp rfl rfl rfl stp_alloc ?_
    rintro _ w2 ⟨b9, rfl, n2⟩
    refine zst ?_
    refine WU.stp0 rfl rfl (stp_store_whole rfl rfl rfl rfl) ?_
    rintro _ w3 u3
    have x3 : Ext wk w3 := (u3.ofNew n2).ext
    have ib9 : Has w3 b9 (.cells (del e a3 c3 a4 c4).toArray 51) := u3.has
    have hS3 := hS.ext x3
    clear u3 n2
    have hml : e.ms.length ≤ 16777216 := by
      have := wtM_len e.ms
      have : wtDe e = wt e.ty + (e.name.size + wtM e.ms) := rfl
      omega
    have hwde : wtDe e = wt e.ty + (e.name.size + wtM e.ms) := rfl
    refine zst ?_
    refine W.loop (σ := Nat) (fun j => [(96, .int .i64 j), (95, .int .i64 e.ms.length), (94, .slice a4 e.ms.length c4), (9, pt b9), (8, .int .i64 i), (88, .int .i64 i), (87, .int .i64 K.D.length), (86, .slice (some ⟨b, o, none⟩) K.D.length cp), (3, pt bb)])
      (fun j D' wj => D' = [] ∧ j ≤ e.ms.length ∧ Has wj b9 (.cells (del e a3 c3 a4 c4).toArray 51) ∧ ∃ s made msv mfb, MSt K P s0 w0 bb w0.heap.size i j wj s made msv mfb ∧ made.length ≤ wtD K.D + wtD (K.D.take i) + wtM (e.ms.take j))
      (fun j => e.ms.length - j) 0 ⟨rfl, Nat.zero_le _, ib9, s, made, msv, mfb, hS3, by omega⟩ (by exact sub_of ⟨rfl, rfl, rfl, rfl, rfl, rfl, rfl, rfl, rfl, trivial⟩) ?_
    clear hS hS3 hck ib9 hlnk x3
    clear s made msv mfb wk w2 w3
    rintro j D' wj ⟨rfl, hj, ib9, s, made, msv, mfb, hS, hlnj⟩
    refine zst ?_
    by_cases hltj : j < e.ms.length
    · rw [show decide ((j : Int) < (e.ms.length : Int)) = true by simpa using hltj]
      have hmj := List.getElem?_eq_getElem hltj
      generalize e.ms[j] = m at hmj
      have hal : e.al = false := (hmh.kind fun h => by rw [h] at hltj; simp at hltj).1
      obtain ⟨hmu, hm8, hmsh, hmlg⟩ := hmh.fn m (List.mem_of_getElem? hmj)
      have hwm := wtM_take hmj
      have hwm2 := wtM_le e.ms (j + 1)
      obtain ⟨bm, om, am, cm, rfl, hpbm, hcm, htm⟩ := hme.next hmj
      have hcmj : Cells wj bm (om + j * 9) (mel m am cm) := Cells.sameB (hS.bel.block bm (hp bm hpbm)) hcm
      refine zst ?_
      refine WU.yld rfl rfl rfl (yld_load_cells rfl hcmj) ?_
      refine WU.stp rfl rfl rfl stp_alloc ?_
      rintro _ w2 ⟨b11, rfl, n2⟩
      refine WU.stp0 rfl rfl (stp_store_whole rfl rfl rfl rfl) ?_
      rintro _ w3 u3
      have x3 : Ext wj w3 := (u3.ofNew n2).ext
      have ib11 : Has w3 b11 (.cells (mel m am cm).toArray 92) := u3.has
      have jb9 := ib9.ext' x3
      have hS3 := hS.ext x3
      clear u3 n2
      obtain ⟨nb, nob, nT, nub, hnm, hng, hnv, hnt, hno, hnl, hnc, hnq⟩ := hS3.ms.nam i e he hal
      obtain ⟨vm, ncs, hbb3, hnb3, hnsz, hncell⟩ := hS3.bl.nr
      have hnci := hncell i _ hnm
      obtain ⟨pc, px, hpc, hpk⟩ := hS3.bl.bi.pkg e.pkg hpkg
      refine zst ?_
      refine WU.yld rfl rfl rfl (yld_load_c rfl (by rw [Nat.mul_one, Nat.zero_add]; exact cell_of hnb3 hnci)) ?_
      refine zst ?_
      refine W.join (fun e' w' => Ext w3 w' ∧ ∃ rt, IsI rt ∧ (m.ptr = false → rt = .iface tNP (pt nb)) ∧ (m.ptr = true → ∃ pb, rt = .iface tPP (pt pb) ∧ Has w' pb (.cells #[.iface tNP (pt nb)] tPT)) ∧
        subs e' [(13, rt), (12, pt nb), (11, pt b11), (96, .int .i64 j), (95, .int .i64 e.ms.length), (94, .slice (some ⟨bm, om, none⟩) e.ms.length c4), (9, pt b9), (8, .int .i64 i), (88, .int .i64 i), (87, .int .i64 K.D.length), (86, .slice (some ⟨b, o, none⟩) K.D.length cp), (3, pt bb)]) ?_ ?_
      · cases hmp : m.ptr
        · refine zst ?_
          exact ⟨rfl, rfl, Ext.rfl' _, _, ⟨_, _, rfl⟩, fun _ => rfl, fun h => (by cases h), rfl, rfl, rfl, rfl, rfl, rfl, rfl, rfl, rfl, rfl, rfl, rfl, trivial⟩
        · refine zst ?_
          refine WU.stp rfl rfl rfl (stp_call rfl (c_NewPointer tNP (pt nb) w3)) ?_
          rintro _ w4 ⟨pb, rfl, n4⟩
          refine zst ?_
          exact ⟨rfl, rfl, n4.ext, _, ⟨_, _, rfl⟩, fun h => (by cases h), fun _ => ⟨pb, rfl, n4.has⟩, rfl, rfl, rfl, rfl, rfl, rfl, rfl, rfl, rfl, rfl, rfl, rfl, trivial⟩
      · rintro e' w4 ⟨x4, rt, ⟨T, rb, rfl⟩, hrf, hrp, hsub⟩
        refine W.sub (e' := [(13, .iface T (pt rb)), (12, pt nb), (11, pt b11), (96, .int .i64 j), (95, .int .i64 e.ms.length), (94, .slice (some ⟨bm, om, none⟩) e.ms.length c4), (9, pt b9), (8, .int .i64 i), (88, .int .i64 i), (87, .int .i64 K.D.length), (86, .slice (some ⟨b, o, none⟩) K.D.length cp), (3, pt bb)]) ?_ (sub_of hsub)
        obtain ⟨q, hq, hq2⟩ : ∃ q : Nat, e.pkg = q ∧ q < 2 := by
          rcases hpkg with h | h
          · exact ⟨0, h, by omega⟩
          · exact ⟨1, h, by omega⟩
        have pkc : ∀ (W : World) (u v : Value), Has W bb (.cells #[s.pk 0, s.pk 1, u, s.er, v] tBU) → W.cell? ⟨bb, q, none⟩ = some (pt pc) := fun W u v h => by
          rw [← hpc, hq]
          match q, hq2 with
          | 0, _ => exact cell_of h rfl
          | 1, _ => exact cell_of h rfl
        have hdel : del e a3 c3 (some ⟨bm, om, none⟩) c4 = [.string e.name, .int .i64 q, .bool e.al, .int .i64 e.ty.kind, .int .i64 e.ty.n, .int .i64 e.ty.count, .bool e.ty.vr, .slice a3 e.ty.elems.length c3, .string e.ty.name, .string e.ty.tag, .bool e.ty.emb, .slice (some ⟨bm, om, none⟩) e.ms.length c4] := by unfold del; rw [hq]
        have jb9q := jb9
        rw [hdel] at jb9q
        have jb4 := jb9q.ext' x4
        have hbb4 := hbb3.ext' x4
        refine zst ?_
        refine W.regD [(0, .q), (1, .q), (2, .q), (3, .q), (4, .q), (5, .q), (6, .q), (7, .q), (8, .l), (9, .q)] (by kernel_rfl) (by kernel_rfl) rfl ?_
        intro w5 x5 _
        have jb5 := jb4.ext' x5
        have hbb5 := hbb4.ext' x5
        refine zsd ?_
        refine WD.yld rfl rfl rfl rfl (yld_indexAddr_arr (i := q) rfl rfl (by omega)) ?_
        refine zsd ?_
        refine WD.yld rfl rfl rfl rfl (yld_load_c rfl (pkc _ _ _ hbb5)) ?_
        refine zsd ?_
        refine WD.stp rfl rfl rfl rfl (stp_call rfl (c_NewVar 0 (some ⟨pc, 0, none⟩) eB T (pt rb) w5)) ?_
        rintro _ w6 ⟨rv, rfl, n6⟩
        refine ⟨by first | assumption | exact Ext.rfl' _ | infer_instance, ?_⟩
        refine zsd ?_
        refine zst ?_
        have x36 : Ext w3 w6 := (x4.trans x5).trans n6.ext
        have hS6 := hS3.ext x36
        have jb6 := jb9q.ext' x36
        have ib6 := ib11.ext' x36
        have hbb6 := hbb3.ext' x36
        obtain ⟨F, hFd⟩ : ∃ F : World → Prop, ∀ W, F W ↔ (Has W b9 (.cells #[.string e.name, .int .i64 q, .bool e.al, .int .i64 e.ty.kind, .int .i64 e.ty.n, .int .i64 e.ty.count, .bool e.ty.vr, .slice a3 e.ty.elems.length c3, .string e.ty.name, .string e.ty.tag, .bool e.ty.emb, .slice (some ⟨bm, om, none⟩) e.ms.length c4] 51) ∧ Has W b11 (.cells (mel m am cm).toArray 92) ∧ ∃ u, Has W bb (.cells #[s.pk 0, s.pk 1, .slice (some ⟨K.nb, 0, none⟩) K.D.length K.D.length, s.er, u] tBU)) := ⟨fun W => (Has W b9 (.cells #[.string e.name, .int .i64 q, .bool e.al, .int .i64 e.ty.kind, .int .i64 e.ty.n, .int .i64 e.ty.count, .bool e.ty.vr, .slice a3 e.ty.elems.length c3, .string e.ty.name, .string e.ty.tag, .bool e.ty.emb, .slice (some ⟨bm, om, none⟩) e.ms.length c4] 51) ∧ Has W b11 (.cells (mel m am cm).toArray 92) ∧ ∃ u, Has W bb (.cells #[s.pk 0, s.pk 1, .slice (some ⟨K.nb, 0, none⟩) K.D.length K.D.length, s.er, u] tBU)), fun _ => Iff.rfl⟩
        refine W.regR (R := fun a b => F a → F b) (fun _ h => h) (fun _ _ _ h k x => k (h x)) [(0, .q), (1, .q), (2, .q), (3, .q), (4, .q), (5, .q), (6, .q), (7, .q), (8, .q), (9, .q), (10, .q), (11, .q), (12, .q), (13, .q), (14, .q), (15, .l), (16, .l), (17, .l)] (by kernel_rfl) (by kernel_rfl) rfl ?_
        intro w7 x7 _
        have hF : F w7 := (hFd _).2 ⟨jb6.ext' x7, ib6.ext' x7, vm, hbb6.ext' x7⟩
        have hS7 := hS6.ext x7
        (repeat (first
            | refine WR.nilk ?_
            | refine WR.nil ?_
            | refine WR.yld (fun _ h => h) rfl rfl rfl rfl (fun w' hx => by obtain ⟨i1, i2, u, i3⟩ := (hFd _).1 (hx hF); first | exact zyl | (exact by first | exact yld_indexAddr_arr (i := q) rfl rfl (by omega) | exact yld_load_c rfl (pkc _ _ u i3) | exact yld_load_cells rfl (Cells.me_of (Cells.has i2))) | exact yld_indexAddr_arr rfl rfl (by omega)) ?_
            | refine WR.skip rfl rfl rfl rfl ?_))
        have hx7 : Ctx K.D K K.D.length s w7 bb made := ⟨hS7.bl.bi, fun n e he _ => hS7.dc.nms he, hS7.bl.prp, hS7.bl.gN, rfl, Nat.le_refl _⟩
        have hask : Ask K.D K.D.length w7 K p (tyc m.fn am cm) m.fn := ⟨.of_tys (htm.same fun b hb => hS7.bel.block b (hp b hb)), fun b hb => ⟨hp b hb, Nat.lt_of_lt_of_le (hp b hb) hS7.bl.hN⟩, ⟨false, hmsh⟩, hmlg⟩
        refine WR.stp rfl rfl rfl rfl (stp_call rfl (c_signature K.D K K.D.length m.fn hm8 (fun q e' he' => c_typ' K.D K K.D.length e') s w7 bb made p _ (some ⟨rv, 0, none⟩) hx7 hask (by show _ ≤ 268435456; omega))) ?_
        rintro r w8 ⟨sb, ps8, rs8, s2, new2, rfl, m8, rt8, hge8, hh8⟩
        have hF : F w8 := by
          obtain ⟨i1, i2, u, i3⟩ := (hFd _).1 hF
          exact (hFd _).2 ⟨Has.sta m8.sta i1, Has.sta m8.sta i2, Has.staB m8.sta i3⟩
        refine ⟨fun _ => hF, ?_⟩
        (repeat (first
            | refine WR.nilk ?_
            | refine WR.nil ?_
            | refine WR.yld (fun _ h => h) rfl rfl rfl rfl (fun w' hx => by obtain ⟨i1, i2, u, i3⟩ := (hFd _).1 (hx hF); first | exact zyl | (exact by first | exact yld_indexAddr_arr (i := q) rfl rfl (by omega) | exact yld_load_c rfl (pkc _ _ u i3) | exact yld_load_cells rfl (Cells.me_of (Cells.has i2))) | exact yld_indexAddr_arr rfl rfl (by omega)) ?_
            | refine WR.skip rfl rfl rfl rfl ?_))
        refine WR.stp rfl rfl rfl rfl (stp_call rfl (c_NewFunc 0 (some ⟨pc, 0, none⟩) m.fn.name sb w8)) ?_
        rintro _ w9 ⟨fb, rfl, n9⟩
        have hF : F w9 := by
          obtain ⟨i1, i2, u, i3⟩ := (hFd _).1 hF
          exact (hFd _).2 ⟨i1.ext' n9.ext, i2.ext' n9.ext, u, i3.ext' n9.ext⟩
        refine ⟨fun _ => hF, ?_⟩
        (repeat (first
            | refine WR.nilk ?_
            | refine WR.nil ?_
            | refine WR.yld (fun _ h => h) rfl rfl rfl rfl (fun w' hx => by obtain ⟨i1, i2, u, i3⟩ := (hFd _).1 (hx hF); first | exact zyl | (exact by first | exact yld_indexAddr_arr (i := q) rfl rfl (by omega) | exact yld_load_c rfl (pkc _ _ u i3) | exact yld_load_cells rfl (Cells.me_of (Cells.has i2))) | exact yld_indexAddr_arr rfl rfl (by omega)) ?_
            | refine WR.skip rfl rfl rfl rfl ?_))
        have hS9 := (hS7.made m8).ext n9.ext
        obtain ⟨nb', nob', nT', nub', hnm', hng', hnv', hnt', hno', hnl', hnc', hnq'⟩ := hS9.ms.nam i e he hal
        have hnbe : nb' = nb := by
          have h1 := (congrFun (hS9.nm.trans hS.nm.symm) i).symm.trans hnm'
          rw [hnm] at h1
          cases h1
          rfl
        subst hnbe
        have hcj : cntM K.D i j i = j := by unfold cntM; simp
        rw [hcj] at hnl'
        have hspk : (s2.clo w7.heap.size w8.heap.size).pk e.pkg = pt pc := by rw [← hpc]; exact congrFun m8.gle.pk _
        rw [hspk] at hnt'
        have hpk9 : Has w9 pc (.cells #[.string (pth e.pkg), .string px] tPK) := (Has.sta m8.sta ((hpk.ext' x36).ext' x7)).ext' n9.ext
        have hfb9 : FuncV w9 fb (pt pc) m.fn.name (.iface tSP (pt sb)) := n9.has
        have huq := hmh.unq
        have hnmu : ∀ (k : Nat) m', e.ms[k]? = some m' → (names (e.ms.map (·.fn)) ++ (if (underT K.D e.ty).kind = 7 then names (underT K.D e.ty).elems else []))[k]? = some m'.fn.name.toList := fun k m' hk => by
          have hlt := (List.getElem?_eq_some_iff.1 hk).1
          rw [List.getElem?_append_left (by unfold names; simpa using hlt)]
          unfold names
          rw [List.getElem?_map, List.getElem?_map, hk]
          rfl
        have hmeo : MeO K (s2.clo w7.heap.size w8.heap.size) w9 nb' e m fb := ⟨sb, rv, _, _, pt pc, .iface T (pt rb), 1, by rw [hspk]; exact hfb9, RT.ext n9.ext ((rt8.mono (q := (s2.clo w7.heap.size w8.heap.size).sl) fun d hd hpd => .inr ⟨hpd, hd⟩).le (Gs.gle_seal ..).le), hh8.ext' n9.ext, (Has.sta m8.sta (n6.has.ext' x7)).ext' n9.ext, hrf, fun hm => by
          obtain ⟨pb, k1, k2⟩ := hrp hm
          exact ⟨pb, k1, (Has.sta m8.sta (((k2.ext' x5).ext' n6.ext).ext' x7)).ext' n9.ext⟩⟩
        refine WR.stp rfl rfl rfl rfl (stp_call rfl (c_AddMethod nb' fb nob' pc w0.heap.size (.iface nT' (pt nub')) (msv i) (.iface tSP (pt sb)) e.name m.fn.name (pth e.pkg) px (.iface tNP (pt nb')) (mfb i) w9 hnv' hnt' hfb9 hpk9 hno' (fun q' g hg => by
                  have hql := (List.getElem?_eq_some_iff.1 hg).1
                  have hqe := List.getElem?_eq_getElem (show q' < e.ms.length by omega)
                  obtain ⟨sb', _, _, _, _, _, _, k1, _⟩ := hnq' q' _ g hqe hg
                  exact ⟨_, _, _, k1, fun heq => hmu (by
                    have := huq.un q' j _ (by omega) (hnmu q' _ hqe) (by rw [heq]; exact hnmu j m hmj)
                    rw [← heq]; exact this)⟩) hmu (by omega) hS9.bs)) ?_
        rintro _ w10 ⟨ms', hnam', ho', had⟩
        have hac : AddC K w9 w10 nb' w0.heap.size (pt nob') (.iface nT' (pt nub')) (msv i) ms' (mfb i) := ⟨hnv', hnam', hno', had, _, _, rfl⟩
        have hF : F w10 := by
          obtain ⟨i1, i2, u, i3⟩ := (hFd _).1 hF
          exact (hFd _).2 ⟨hac.has (by decide) (by decide) i1, hac.has (by decide) (by decide) i2, u, hac.has (by decide) (by decide) i3⟩
        refine ⟨fun _ => hF, ?_⟩
        (repeat (first
            | refine WR.nilk ?_
            | refine WR.nil ?_
            | refine WR.yld (fun _ h => h) rfl rfl rfl rfl (fun w' hx => by obtain ⟨i1, i2, u, i3⟩ := (hFd _).1 (hx hF); first | exact zyl | (exact by first | exact yld_indexAddr_arr (i := q) rfl rfl (by omega) | exact yld_load_c rfl (pkc _ _ u i3) | exact yld_load_cells rfl (Cells.me_of (Cells.has i2))) | exact yld_indexAddr_arr rfl rfl (by omega)) ?_
            | refine WR.skip rfl rfl rfl rfl ?_))
        have hS10 := hS9.add he hnm' hng' hmj hac ho' hmeo hP hN0
        have jb10 := ((hFd _).1 hF).1
        have hln8 := m8.len
        have hwtf := wt_eq m.fn
        refine zst ?_
        exact ⟨j + 1, by omega, ⟨rfl, by omega, by rw [hdel]; exact jb10, _, _, _, _, hS10, by rw [List.length_append]; omega⟩, sub_of ⟨rfl, rfl, rfl, rfl, rfl, rfl, rfl, rfl, rfl, trivial⟩⟩
    · rw [show decide ((j : Int) < (e.ms.length : Int)) = false by simpa using hltj]
      obtain rfl : j = e.ms.length := by omega
      rw [List.take_of_length_le (Nat.le_refl _)] at hlnj
      refine zst ?_
      refine ⟨i + 1, by omega, ⟨rfl, by omega, s, made, msv, mfb, ⟨hS.bel, hS.bl, hS.dc, by rw [← cntM_end he]; exact hS.ms, hS.nm, hS.bs⟩, by omega⟩, sub_of ⟨rfl, rfl, rfl, rfl, trivial⟩⟩
  · rw [show decide ((i : Int) < (K.D.length : Int)) = false by simpa using hlt]
    obtain rfl : i = K.D.length := by omega
    have hwl := wtD_le K.D K.D.length
    have hii := hS.bl.ii.all
    have hsc := sc_of hS.bl.bi hS.dc hS.bl.er hii hS.bl.prp hS.bl.gN hS.bl.vd.sh hS.bl.wd
    refine zst ?_
    refine WU.stp rfl rfl rfl (stp_call rfl (c_complete hS.bl.bi hsc hii (by omega))) ?_
    rintro _ w3 ⟨st3, hbi3, hii3⟩
    refine zst ?_
    exact fin1 (.inl rfl) rfl rfl ⟨s, msv, mfb, rfl, Below.sta hS.bel st3 hS.bl.hN, ⟨hbi3, hS.dc.sta st3 (by omega), hS.bl.er.sta st3 (by omega), hii3, hS.bl.prp.sta st3 hS.bl.gN, hS.bl.gN, hS.bl.vd, hS.bl.wd⟩, hS.ms.sta st3 (by omega), hS.nm⟩
end Go.Proofs.YtpiegpegjbmlkaaGreatDoor
namespace Go.Proofs.YtpiegpegjbmlkaaGreatDoor
open Go Go.Kd
set_option maxRecDepth 100000

theorem MeV.same {w w' : World} {p : Nat → Prop} (hs : ∀ b, p b → w'.heap[b]? = w.heap[b]?) {cs : List Value} {m : Me} (h : MeV w p cs m) : MeV w' p cs m := by
  obtain ⟨ts, h1, h2⟩ := h
  exact ⟨ts, h1, h2.same hs⟩
theorem DeV.same {w w' : World} {p : Nat → Prop} (hs : ∀ b, p b → w'.heap[b]? = w.heap[b]?) {cs : List Value} {e : De} (h : DeV w p cs e) : DeV w' p cs e := by
  obtain ⟨ts, a, cp, f, h1, h2, h3, h4⟩ := h
  exact ⟨ts, a, cp, f, h1, h2.same hs, h3.same hs, fun i m hm => (h4 i m hm).same hs⟩
theorem DsV.same {w w' : World} {p : Nat → Prop} (hs : ∀ b, p b → w'.heap[b]? = w.heap[b]?) {v : Value} {D : List De} (h : DsV w p v D) : DsV w' p v D := by
  obtain ⟨a, cp, f, h1, h2, h3⟩ := h
  exact ⟨a, cp, f, h1, h2.same hs, fun i e he => (h3 i e he).same hs⟩

/-- the defined types that are made have no methods yet -/
def NoM (K : Cfg) (s : Gs) (w : World) (i : Nat) : Prop := ∀ (n : Nat) e, K.D[n]? = some e → e.al = false → n < i → ∃ b ob T ub, s.nm n = some (.iface tNP (pt b)) ∧ s.g b = some (tN n) ∧ NamV w b (pt ob) (.iface T (pt ub)) (.slice none 0 0) ∧ TnV w ob (s.pk e.pkg) e.name (.iface tNP (pt b))
theorem NoM.keep {K : Cfg} {l : Nat} {s : Gs} {w w' : World} {i : Nat} (x : Sta K l w w') (hN : ∀ d cs, Has w d (.cells cs tNM) → Has w' d (.cells cs tNM)) (h : NoM K s w i) : NoM K s w' i := fun n e he ha hn => by
  obtain ⟨b, ob, T, ub, h1, h2, h3, h4⟩ := h n e he ha hn
  exact ⟨b, ob, T, ub, h1, h2, hN _ _ h3, h4.sta x⟩
theorem NoM.sle {K : Cfg} {s s' : Gs} {w : World} {i : Nat} (l : s.sle s') (h : NoM K s w i) : NoM K s' w i := fun n e he ha hn => by
  obtain ⟨b, ob, T, ub, h1, h2, h3, h4⟩ := h n e he ha hn
  exact ⟨b, ob, T, ub, l.le.nm _ _ h1, l.le.g _ _ h2, h3, by rw [l.le.pk]; exact h4⟩
theorem NoM.next {K : Cfg} {s : Gs} {w : World} {i : Nat} {e : De} (he : K.D[i]? = some e) (hi : e.al = false → ∃ b ob T ub, s.nm i = some (.iface tNP (pt b)) ∧ s.g b = some (tN i) ∧ NamV w b (pt ob) (.iface T (pt ub)) (.slice none 0 0) ∧ TnV w ob (s.pk e.pkg) e.name (.iface tNP (pt b))) (h : NoM K s w i) : NoM K s w (i + 1) := fun n e' he' ha hn => by
  by_cases hni : n = i
  · subst hni
    rw [he] at he'
    cases he'
    exact hi ha
  · exact h n e' he' ha (by omega)
theorem DclI.next {K : Cfg} {s : Gs} {w : World} {i : Nat} {e : De} (he : K.D[i]? = some e) (hi : DclV K s w i e true) (h : DclI K s w i) : DclI K s w (i + 1) := fun n e' he' => by
  by_cases hni : n = i
  · subst hni
    rw [he] at he'
    cases he'
    rw [decide_eq_true (Nat.lt_succ_self n)]
    exact hi
  · have := h n e' he'
    rwa [show decide (n < i + 1) = decide (n < i) from by by_cases hn : n < i <;> simp [hn] <;> omega]
/-- the state when types are made -/
structure LSt (K : Cfg) (P : Nat → Prop) (w0 : World) (bb i : Nat) (w : World) (s : Gs) (made : List Nat) : Prop where
  bel : RowKit.Below K.N w0 w
  bl : BL K P s w bb made
  dc : DclI K s w i
  no : NoM K s w i
section
variable {K : Cfg} {P : Nat → Prop} {w0 w w' : World} {bb i : Nat} {s : Gs} {md : List Nat}
theorem LSt.chg {l : Nat} (x : Sta K l w w') (hl : l ≤ 3) (hk : NKept w w') (hN : ∀ d cs, Has w d (.cells cs tNM) → Has w' d (.cells cs tNM)) (h : LSt K P w0 bb i w s md) : LSt K P w0 bb i w' s md :=
  ⟨Below.sta h.bel x h.bl.hN, h.bl.chg x hl hk, h.dc.chg x hl hN, h.no.keep x hN⟩
theorem LSt.ext (x : Ext w w') (h : LSt K P w0 bb i w s md) : LSt K P w0 bb i w' s md := h.chg (l := 0) (.of_ext x) (by omega) (.of_ext x) fun _ _ hh => hh.ext' x
theorem LSt.made {s' : Gs} {n : Nat} {new : List Nat} (h : LSt K P w0 bb i w s md) (m : Made K s w bb md n s' new w') : LSt K P w0 bb i w' (s'.clo w.heap.size w'.heap.size) (md ++ new) := by
  have hg : s.gle (s'.clo w.heap.size w'.heap.size) := m.gle.trans (Gs.gle_seal ..)
  have hN : ∀ d cs, Has w d (.cells cs tNM) → Has w' d (.cells cs tNM) := fun d cs hh => Has.sta0 m.sta (by decide) (by decide) hh
  exact ⟨Below.sta h.bel m.sta h.bl.hN, (h.bl.made m).clo _ (Nat.le_refl _), (h.dc.chg m.sta (by omega) hN).gle hg, (h.no.keep m.sta hN).sle hg.sle⟩
/-- an alias is named -/
theorem LSt.setNm (h : LSt K P w0 bb i w s md) {v : Value} (hk : i < K.D.length) (hn : s.nm i = none) (hv : IsI v) {cs : Array Value} (hcs : Has w K.nb (.cells cs tTY)) (u : Upd w K.nb (.cells (cs.setIfInBounds i v) tTY) w') : LSt K P w0 bb i w' (s.setNm i v) md := by
  have x : Sta K 2 w w' := sta_nb h.bl.bi.nbN hcs u
  have hN : ∀ d cs, Has w d (.cells cs tNM) → Has w' d (.cells cs tNM) := fun d cs hh => ⟨(u.oth _ (Has.tne hh hcs (by decide))).trans hh.at_⟩
  have l : s.sle (s.setNm i v) := Gs.sle_setNm hn
  exact ⟨bel_upd h.bel u h.bl.bi.nbN, h.bl.setNm hk hn hv hcs u, fun n e he => ((h.dc.chg x (by omega) hN) n e he).sle l, (h.no.keep x hN).sle l⟩
theorem LSt.next (h : LSt K P w0 bb i w s md) {e : De} (he : K.D[i]? = some e) (hi : DclV K s w i e true) (hi2 : e.al = false → ∃ b ob T ub, s.nm i = some (.iface tNP (pt b)) ∧ s.g b = some (tN i) ∧ NamV w b (pt ob) (.iface T (pt ub)) (.slice none 0 0) ∧ TnV w ob (s.pk e.pkg) e.name (.iface tNP (pt b))) : LSt K P w0 bb (i + 1) w s md :=
  ⟨h.bel, h.bl, h.dc.next he hi, h.no.next he hi2⟩
/-- a defined type has its underlying type -/
theorem LSt.und (h : LSt K P w0 bb i w s md) {e : De} (he : K.D[i]? = some e) (hal : e.al = false) {b ob T ub : Nat} {y : Ty} (h1 : s.nm i = some (.iface tNP (pt b))) (hg : s.g b = some (tN i)) (ht : TnV w ob (s.pk e.pkg) e.name (.iface tNP (pt b)))
    (hb : Has w b (.cells (nmc (pt ob) true 0 0 .nilIface .nilIface (.slice none 0 0)) tNM)) (u : Upd w b (.cells (nmc (pt ob) false 0 15 (.iface T (pt ub)) (.iface T (pt ub)) (.slice none 0 0)) tNM) w') (hr : RT K s w s.sl (.iface T (pt ub)) y) (hy : isLit y) (hu : underT K.D (tN i) = norm y) : LSt K P w0 bb (i + 1) w' s md := by
  have hNb : K.N ≤ b := (h.bl.ii b _ hg).1
  have st : Sta K 2 w w' := .of_upd hb u hNb ⟨rfl, fun i hi => by
    unfold mc at hi
    simp only [show ¬ tNM = tTY from by decide, show ¬ tNM = tIF from by decide, show ¬ tNM = tSG from by decide, if_false, if_true] at hi
    simp [nilI] at hi
    match i, hi with
    | 0, _ => rfl
    | 1, _ => rfl⟩
  have hk : NKept w w' := fun d cs t hh h1 _ => ⟨(u.oth d (Has.tne hh hb h1)).trans hh.at_⟩
  have hoth : ∀ d cs, d ≠ b → Has w d (.cells cs tNM) → Has w' d (.cells cs tNM) := fun d cs hne hh => ⟨(u.oth d hne).trans hh.at_⟩
  have hne : ∀ (n c : Nat), n ≠ i → s.g c = some (tN n) → c ≠ b := fun n c hn hc e => by
    subst e
    rw [hg] at hc
    exact hn (tN_inj (Option.some.inj hc)).symm
  refine ⟨bel_upd h.bel u hNb, h.bl.chg st (by omega) hk, fun n e' he' => ?_, fun n e' he' ha hn => ?_⟩
  · by_cases hni : n = i
    · subst hni
      rw [he] at he'
      cases he'
      rw [decide_eq_true (Nat.lt_succ_self n)]
      exact .def1 b ob _ _ y hal h1 hg (ht.sta st) u.has (hr.sta st (by omega)) hy hu
    · have := h.dc n e' he'
      rw [show decide (n < i + 1) = decide (n < i) from by by_cases hn : n < i <;> simp [hn] <;> omega]
      generalize decide (n < i) = d at this ⊢
      cases this with
      | def0 b' ob' k1 k2 k3 k4 k5 => exact .def0 b' ob' k1 k2 k3 (k4.sta st) (hoth _ _ (hne n b' hni k3) k5)
      | def1 b' ob' u' ms' y' k1 k2 k3 k4 k5 k6 k7 k8 => exact (DclV.def1 b' ob' u' ms' y' k1 k2 k3 k4 k5 k6 k7 k8).sta1 st (by omega)
      | al0 k1 => exact .al0 k1
      | al1 b' ob' v v1 y' k1 k2 k3 k4 k5 k6 k7 k8 k9 k10 k11 => exact (DclV.al1 b' ob' v v1 y' k1 k2 k3 k4 k5 k6 k7 k8 k9 k10 k11).sta1 st (by omega)
  · by_cases hni : n = i
    · subst hni
      exact ⟨b, ob, T, ub, h1, hg, u.has, by rw [he] at he'; cases he'; exact ht.sta st⟩
    · obtain ⟨b', ob', T', ub', k1, k2, k3, k4⟩ := h.no n e' he' ha (by omega)
      exact ⟨b', ob', T', ub', k1, k2, hoth _ _ (hne n b' hni k2) k3, k4.sta st⟩
theorem LSt.ctx (h : LSt K P w0 bb i w s md) (hi : i ≤ K.D.length) : Ctx K.D K i s w bb md := ⟨h.bl.bi, fun n e he hk => by
  have := h.dc n e he
  generalize hd : decide (n < i) = d at this
  cases this with
  | def0 b ob h1 h2 => exact ⟨_, h2⟩
  | def1 b ob u ms y h1 h2 => exact ⟨_, h2⟩
  | al0 h1 =>
    rcases hk with k | k
    · rw [h1] at k; cases k
    · simp at hd; omega
  | al1 b ob v v1 y h1 h2 => exact ⟨_, h2⟩, h.bl.prp, h.bl.gN, rfl, hi⟩
theorem LSt.def0 (h : LSt K P w0 bb i w s md) {e : De} (he : K.D[i]? = some e) (hal : e.al = false) : ∃ b ob, s.nm i = some (.iface tNP (pt b)) ∧ s.g b = some (tN i) ∧ TnV w ob (s.pk e.pkg) e.name (.iface tNP (pt b)) ∧ Has w b (.cells (nmc (pt ob) true 0 0 .nilIface .nilIface (.slice none 0 0)) tNM) := by
  have := h.dc i e he
  rw [decide_eq_false (Nat.lt_irrefl i)] at this
  cases this with
  | def0 b ob h1 h2 h3 h4 h5 => exact ⟨b, ob, h2, h3, h4, h5⟩
  | al0 h1 => rw [h1] at hal; cases hal
end
theorem rdy_decl {K : Cfg} (hD : ShapedD K.D) {i : Nat} {e : De} (he : K.D[i]? = some e) : Rdy K i e.ty := fun hk => by
  have hs := (hD i e he).shape
  have hl := (List.getElem?_eq_some_iff.1 he).1
  have r1 := hs.nm hk (.inl rfl)
  have r2 := hs.n0 (by rw [hk]; simp [limitN]; try omega)
  exact ⟨r2, by omega, by omega⟩
theorem len_wtD (D : List De) : D.length ≤ wtD D := by
  induction D with
  | nil => exact Nat.zero_le _
  | cons e r ih =>
    have := wtD_app [e] r
    have h2 : 1 ≤ wtD [e] := by unfold wtD wtDe; have := wt_pos e.ty; simp; omega
    simp only [List.length_cons]
    rw [List.singleton_append] at this
    omega
theorem fin_imp {P : Program} {fn : Func} {R R' : Ending → World → Prop} (h : ∀ x w, R x w → R' x w) : ∀ x D e w, fin P fn R x D e w → fin P fn R' x D e w := fun x D e w k => by
  cases x with
  | normal => exact ⟨k.1, k.2.imp fun vs q => ⟨q.1, h _ _ q.2⟩⟩
  | ret => exact ⟨k.1, k.2.imp fun vs q => ⟨q.1, h _ _ q.2⟩⟩
  | _ => exact k.elim
/-- what build answers -/
def BuildR' (K : Cfg) (w0 : World) (bb : Nat) (r : Value) (w' : World) : Prop := ∃ s base msv mfb, r = pt bb ∧ RowKit.Below K.N w0 w' ∧ K.N ≤ base ∧ Blt K s w' bb ∧ MsI K s w' base (cntM K.D K.D.length 0) msv mfb

set_option maxHeartbeats 8000000 in
theorem build3 {K : Cfg} {P : Nat → Prop} {s0 : Gs} {w0 : World} {bb : Nat} {a : Option Addr} {cp : Nat} {p : Nat → Prop} (hL0 : LSt K P w0 bb 0 w0 s0 []) (hal0 : ∀ (n : Nat) e, K.D[n]? = some e → e.al = true → s0.nm n = none)
    (hP : ∀ d, P d → d < w0.heap.size) (hd : DsV w0 p (.slice a K.D.length cp) K.D) (hp : ∀ b, p b → b < K.N) :
    ∃ c, dropA 8 (bodyA Tryz.f44) = some c ∧ W Tryz.prog 148 c (fin Tryz.prog Tryz.f44 (Ret (BuildR' K w0 bb))) [] [(0, .slice a K.D.length cp), (3, pt bb)] w0 := by
  have hDl : K.D.length ≤ 16777216 := by
    have := len_wtD K.D
    have := hL0.bl.wd
    omega
  refine ⟨_, rfl, ?_⟩
  refine zst ?_
  refine W.loop (σ := Nat) (fun k => [(49, .int .i64 k), (48, .int .i64 K.D.length), (47, .slice a K.D.length cp), (3, pt bb), (0, .slice a K.D.length cp)])
    (fun k D' wk => D' = [] ∧ k ≤ K.D.length ∧ ∃ s made, LSt K P w0 bb k wk s made ∧ (∀ (n : Nat) e, K.D[n]? = some e → e.al = true → k ≤ n → s.nm n = none) ∧ made.length ≤ wtD (K.D.take k))
    (fun k => K.D.length - k) 0 ⟨rfl, Nat.zero_le _, s0, [], hL0, fun n e h1 h2 _ => hal0 n e h1 h2, Nat.zero_le _⟩ (by exact sub_of ⟨rfl, rfl, rfl, rfl, rfl, trivial⟩) ?_
  rintro i D' wk ⟨rfl, hi, s, made, hS, hal, hlnk⟩
  refine zst ?_
  by_cases hlt : i < K.D.length
  · rw [show decide ((i : Int) < (K.D.length : Int)) = true by simpa using hlt]
    have he := List.getElem?_eq_getElem hlt
    generalize K.D[i] = e at he
    obtain ⟨b, o, a3, c3, a4, c4, f, rfl, hpb, hc, hte, hms1, hms2⟩ := hd.next he
    have hck : Cells wk b (o + i * 12) (del e a3 c3 a4 c4) := Cells.sameB (hS.bel.block b (hp b hpb)) hc
    have hpkg := hS.bl.vd.pkg i e he
    have hshe := hS.bl.vd.sh i e he
    have hlge := hS.bl.vd.lg i e he
    have hwe := wtD_take he
    have hwl := wtD_le K.D (i + 1)
    have hwd := hS.bl.wd
    have hwde : wtDe e = wt e.ty + (e.name.size + wtM e.ms) := rfl
    have hNk := hS.bl.hN
    have hrdy := rdy_decl hS.bl.vd.sh he
    refine zst ?_
    refine WU.yld rfl rfl rfl (yld_load_cells rfl hck) ?_
    refine WU.stp rfl rfl rfl stp_alloc ?_
    rintro _ w2 ⟨b7, rfl, n2⟩
    refine zst ?_
    refine WU.stp0 rfl rfl (stp_store_whole rfl rfl rfl rfl) ?_
    rintro _ w3 u3
    have x3 : Ext wk w3 := (u3.ofNew n2).ext
    have ib7 : Has w3 b7 (.cells (del e a3 c3 a4 c4).toArray 51) := u3.has
    have hS3 := hS.ext x3
    clear u3 n2
    refine zst ?_
    cases hea : e.al
    · -- a defined type
      obtain ⟨tb, ob, htb1, htb2, htb3, htb4⟩ := hS3.def0 he hea
      obtain ⟨vm, ncs, hbb3, hnb3, hnsz, hncell⟩ := hS3.bl.nr
      have hnci := hncell i _ htb1
      refine zst ?_
      obtain ⟨F, hFd⟩ : ∃ F : World → Prop, ∀ W, F W ↔ (Has W b7 (.cells (del e a3 c3 a4 c4).toArray 51) ∧ Has W K.nb (.cells ncs tTY) ∧ ∃ u, Has W bb (.cells #[s.pk 0, s.pk 1, .slice (some ⟨K.nb, 0, none⟩) K.D.length K.D.length, s.er, u] tBU)) := ⟨fun W => (Has W b7 (.cells (del e a3 c3 a4 c4).toArray 51) ∧ Has W K.nb (.cells ncs tTY) ∧ ∃ u, Has W bb (.cells #[s.pk 0, s.pk 1, .slice (some ⟨K.nb, 0, none⟩) K.D.length K.D.length, s.er, u] tBU)), fun _ => Iff.rfl⟩
      refine W.regR (R := fun a b => F a → F b) (fun _ h => h) (fun _ _ _ h k x => k (h x)) [(0, .q), (1, .q), (2, .q), (3, .q), (4, .q), (5, .q), (6, .q), (7, .q), (8, .q), (9, .q), (10, .q), (11, .l), (12, .l), (13, .l)] (by kernel_rfl) (by kernel_rfl) rfl ?_
      intro w4 x4 _
      have hF : F w4 := (hFd _).2 ⟨ib7.ext' x4, hnb3.ext' x4, vm, hbb3.ext' x4⟩
      have hS4 := hS3.ext x4
      (repeat (first
          | refine WR.nilk ?_
          | refine WR.nil ?_
          | refine WR.yld (fun _ h => h) rfl rfl rfl rfl (fun w' hx => by obtain ⟨i1, i2, u, i3⟩ := (hFd _).1 (hx hF); first | exact zyl | (exact by first | exact yld_load_cells rfl (Cells.ty_of (Cells.has i1)) | exact yld_load_c rfl (by rw [Nat.mul_one, Nat.zero_add]; exact cell_of i2 hnci)) | exact yld_indexAddr_arr rfl rfl (by omega)) ?_
          | refine WR.skip rfl rfl rfl rfl ?_))
      have hask : Ask K.D i w4 K p (tyc e.ty a3 c3) e.ty := ⟨.of_tys (hte.same fun b hb => hS4.bel.block b (hp b hb)), fun b hb => ⟨hp b hb, Nat.lt_of_lt_of_le (hp b hb) hS4.bl.hN⟩, ⟨true, hshe⟩, hlge⟩
      refine WR.stp rfl rfl rfl rfl (stp_call rfl (c_typ' K.D K i e.ty s w4 bb made p _ (hS4.ctx hi) hask (by show _ ≤ 268435456; omega))) ?_
      rintro r w5 ⟨s5, new5, m5, rt5, T5, rb5, rfl⟩
      have hF : F w5 := by
        obtain ⟨i1, i2, u, i3⟩ := (hFd _).1 hF
        exact (hFd _).2 ⟨Has.sta m5.sta i1, Has.sta0 m5.sta (by decide) (by decide) i2, Has.staB m5.sta i3⟩
      refine ⟨fun _ => hF, ?_⟩
      have hS5 := hS4.made m5
      have rt5' : RT K (s5.clo w4.heap.size w5.heap.size) w5 (s5.clo w4.heap.size w5.heap.size).sl (.iface T5 (pt rb5)) e.ty := ((rt5.mono (q := (s5.clo w4.heap.size w5.heap.size).sl) fun d hd hpd => .inr ⟨hpd, hd⟩).le (Gs.gle_seal ..).le)
      (repeat (first
          | refine WR.nilk ?_
          | refine WR.nil ?_
          | refine WR.yld (fun _ h => h) rfl rfl rfl rfl (fun w' hx => by obtain ⟨i1, i2, u, i3⟩ := (hFd _).1 (hx hF); first | exact zyl | (exact by first | exact yld_load_cells rfl (Cells.ty_of (Cells.has i1)) | exact yld_load_c rfl (by rw [Nat.mul_one, Nat.zero_add]; exact cell_of i2 hnci)) | exact yld_indexAddr_arr rfl rfl (by omega)) ?_
          | refine WR.skip rfl rfl rfl rfl ?_))
      refine WR.stp rfl rfl rfl rfl (stp_und hS5.bl.vd.sh hS5.dc hS5.bl.er rt5' hrdy rfl) ?_
      rintro r _ ⟨rfl, y, hry, hyl, hyu, T6, ub, rfl⟩
      refine ⟨fun h => h, ?_⟩
      (repeat (first
          | refine WR.nilk ?_
          | refine WR.nil ?_
          | refine WR.yld (fun _ h => h) rfl rfl rfl rfl (fun w' hx => by obtain ⟨i1, i2, u, i3⟩ := (hFd _).1 (hx hF); first | exact zyl | (exact by first | exact yld_load_cells rfl (Cells.ty_of (Cells.has i1)) | exact yld_load_c rfl (by rw [Nat.mul_one, Nat.zero_add]; exact cell_of i2 hnci)) | exact yld_indexAddr_arr rfl rfl (by omega)) ?_
          | refine WR.skip rfl rfl rfl rfl ?_))
      obtain ⟨tb', ob', ktb1, ktb2, ktb3, ktb4⟩ := hS5.def0 he hea
      obtain rfl : tb' = tb := by
        have h1 := (congrFun m5.gle.nm i).symm.trans ktb1
        rw [htb1] at h1
        cases h1
        rfl
      obtain ⟨_, hyv, _⟩ := hry.lit hyl
      have hT6 : T6 = dynT y := by cases hyv; rfl
      have hTn := (dynT_lit y).ne
      rw [← hT6] at hTn
      refine WR.stp rfl rfl rfl rfl (stp_call rfl (c_SetUnderlying tb' ub T6 (pt ob') (.slice none 0 0) true w5 ktb4 hTn.1 hTn.2.1)) ?_
      rintro _ w6 u6
      refine ⟨fun h => ?_, ?_⟩
      · obtain ⟨i1, i2, u, i3⟩ := (hFd _).1 h
        exact (hFd _).2 ⟨⟨(u6.oth _ (Has.tne i1 ktb4 (by decide))).trans i1.at_⟩, ⟨(u6.oth _ (Has.tne i2 ktb4 (by decide))).trans i2.at_⟩, u, ⟨(u6.oth _ (Has.tne i3 ktb4 (by decide))).trans i3.at_⟩⟩
      have hS6 := hS5.und he hea ktb1 ktb2 ktb3 ktb4 u6 (hry.mono fun d _ hd => hd.elim id id) hyl (by rw [under_step hS5.bl.vd.sh (tN_kind i) (by rw [tN_n, Int.toNat_natCast]; exact he)]; exact hyu)
      (repeat (first
          | refine WR.nilk ?_
          | refine WR.nil ?_
          | refine WR.yld (fun _ h => h) rfl rfl rfl rfl (fun w' hx => by obtain ⟨i1, i2, u, i3⟩ := (hFd _).1 (hx hF); first | exact zyl | (exact by first | exact yld_load_cells rfl (Cells.ty_of (Cells.has i1)) | exact yld_load_c rfl (by rw [Nat.mul_one, Nat.zero_add]; exact cell_of i2 hnci)) | exact yld_indexAddr_arr rfl rfl (by omega)) ?_
          | refine WR.skip rfl rfl rfl rfl ?_))
      have hln5 := m5.len
      refine zst ?_
      exact ⟨i + 1, by omega, ⟨rfl, by omega, _, _, hS6, fun n e' he' ha' hn' => by
        show s5.nm n = none
        rw [m5.gle.nm]
        exact hal n e' he' ha' (by omega), by rw [List.length_append]; omega⟩, sub_of ⟨rfl, rfl, rfl, rfl, rfl, trivial⟩⟩
    · -- an alias
      obtain ⟨vm, ncs, hbb3, hnb3, hnsz, hncell⟩ := hS3.bl.nr
      obtain ⟨c0, y0, hc0, _⟩ := hS3.bl.bi.pkg 0 (.inl rfl)
      obtain ⟨c1, y1, hc1, _⟩ := hS3.bl.bi.pkg 1 (.inr rfl)
      have hni := hal i e he hea (Nat.le_refl _)
      refine zst ?_
      obtain ⟨F, hFd⟩ : ∃ F : World → Prop, ∀ W, F W ↔ (Has W b7 (.cells (del e a3 c3 a4 c4).toArray 51) ∧ Has W K.nb (.cells ncs tTY) ∧ ∃ u, Has W bb (.cells #[s.pk 0, s.pk 1, .slice (some ⟨K.nb, 0, none⟩) K.D.length K.D.length, s.er, u] tBU)) := ⟨fun W => (Has W b7 (.cells (del e a3 c3 a4 c4).toArray 51) ∧ Has W K.nb (.cells ncs tTY) ∧ ∃ u, Has W bb (.cells #[s.pk 0, s.pk 1, .slice (some ⟨K.nb, 0, none⟩) K.D.length K.D.length, s.er, u] tBU)), fun _ => Iff.rfl⟩
      refine W.regR (R := fun a b => F a → F b) (fun _ h => h) (fun _ _ _ h k x => k (h x)) [(0, .q), (1, .q), (2, .q), (3, .q), (4, .q), (5, .q), (6, .q), (8, .q), (9, .q), (10, .q), (7, .l), (11, .l), (12, .l), (13, .q), (14, .q), (15, .z)] (by kernel_rfl) (by kernel_rfl) rfl ?_
      intro w4 x4 _
      have hF : F w4 := (hFd _).2 ⟨ib7.ext' x4, hnb3.ext' x4, vm, hbb3.ext' x4⟩
      have hS4 := hS3.ext x4
      have hb4 := hbb3.ext' x4
      (repeat (first
          | refine WR.nilk ?_
          | refine WR.nil ?_
          | refine WR.yld (fun _ h => h) rfl rfl rfl rfl (fun w' hx => by obtain ⟨i1, i2, u, i3⟩ := (hFd _).1 (hx hF); first | exact zyl | (exact by first | exact yld_load_cells rfl (Cells.ty_of (Cells.has i1)) | exact yld_load_cells rfl (Cells.has i1)) | exact yld_indexAddr_arr rfl rfl (by omega)) ?_
          | refine WR.skip rfl rfl rfl rfl ?_))
      refine WR.stp rfl rfl rfl rfl (stp_call rfl (c_name bb (s.pk 0) (s.pk 1) _ s.er vm e a3 c3 a4 c4 (fun k => match k with | 0 => some ⟨c0, 0, none⟩ | _ => some ⟨c1, 0, none⟩) w4 hc0 hc1 hb4 hpkg)) ?_
      rintro _ w5 ⟨ob, rfl, hobge, hob, x5⟩
      have hF : F w5 := by
        obtain ⟨i1, i2, u, i3⟩ := (hFd _).1 hF
        exact (hFd _).2 ⟨i1.ext' x5, i2.ext' x5, u, i3.ext' x5⟩
      refine ⟨fun _ => hF, ?_⟩
      have hS5 := hS4.ext x5
      have hob5 : TnV w5 ob (s.pk e.pkg) e.name .nilIface := by
        rcases hpkg with h | h
        · rw [h] at hob ⊢; rw [hc0]; exact hob
        · rw [h] at hob ⊢; rw [hc1]; exact hob
      (repeat (first
          | refine WR.nilk ?_
          | refine WR.nil ?_
          | refine WR.yld (fun _ h => h) rfl rfl rfl rfl (fun w' hx => by obtain ⟨i1, i2, u, i3⟩ := (hFd _).1 (hx hF); first | exact zyl | (exact by first | exact yld_load_cells rfl (Cells.ty_of (Cells.has i1)) | exact yld_load_cells rfl (Cells.has i1)) | exact yld_indexAddr_arr rfl rfl (by omega)) ?_
          | refine WR.skip rfl rfl rfl rfl ?_))
      have hask : Ask K.D i w5 K p (tyc e.ty a3 c3) e.ty := ⟨.of_tys (hte.same fun b hb => hS5.bel.block b (hp b hb)), fun b hb => ⟨hp b hb, Nat.lt_of_lt_of_le (hp b hb) hS5.bl.hN⟩, ⟨true, hshe⟩, hlge⟩
      refine WR.stp rfl rfl rfl rfl (stp_call rfl (c_typ' K.D K i e.ty s w5 bb made p _ (hS5.ctx hi) hask (by show _ ≤ 268435456; omega))) ?_
      rintro r w6 ⟨s6, new6, m6, rt6, T6, rb6, rfl⟩
      have hF : F w6 := by
        obtain ⟨i1, i2, u, i3⟩ := (hFd _).1 hF
        exact (hFd _).2 ⟨Has.sta m6.sta i1, Has.sta0 m6.sta (by decide) (by decide) i2, Has.staB m6.sta i3⟩
      refine ⟨fun _ => hF, ?_⟩
      have hS6 := hS5.made m6
      have rt6' : RT K (s6.clo w5.heap.size w6.heap.size) w6 (s6.clo w5.heap.size w6.heap.size).sl (.iface T6 (pt rb6)) e.ty := ((rt6.mono (q := (s6.clo w5.heap.size w6.heap.size).sl) fun d hd hpd => .inr ⟨hpd, hd⟩).le (Gs.gle_seal ..).le)
      have hob6 : TnV w6 ob (s.pk e.pkg) e.name .nilIface := Has.sta0 m6.sta (by decide) (by decide) hob5
      have hNob : K.N ≤ ob := by have := hS4.bl.hN; omega
      (repeat (first
          | refine WR.nilk ?_
          | refine WR.nil ?_
          | refine WR.yld (fun _ h => h) rfl rfl rfl rfl (fun w' hx => by obtain ⟨i1, i2, u, i3⟩ := (hFd _).1 (hx hF); first | exact zyl | (exact by first | exact yld_load_cells rfl (Cells.ty_of (Cells.has i1)) | exact yld_load_cells rfl (Cells.has i1)) | exact yld_indexAddr_arr rfl rfl (by omega)) ?_
          | refine WR.skip rfl rfl rfl rfl ?_))
      refine WR.stp rfl rfl rfl rfl (stp_call rfl (c_NewAlias hS6.bl.vd.sh hS6.dc hS6.bl.er hob6 hNob rt6' hrdy hS6.bl.bi.sll)) ?_
      rintro _ w7 ⟨ab, T7, c7, y, rfl, habge, hab, hob7, st7, hoth7, hry, hya, hyu, hyr⟩
      have hk7 : NKept w6 w7 := fun d cs t hh h1 h2 => ⟨(hoth7 d hh.lt (Has.tne hh hob6 h2)).trans hh.at_⟩
      have hN7 : ∀ d cs, Has w6 d (.cells cs tNM) → Has w7 d (.cells cs tNM) := fun d cs hh => ⟨(hoth7 d hh.lt (Has.tne hh hob6 (by decide))).trans hh.at_⟩
      have hF : F w7 := by
        obtain ⟨i1, i2, u, i3⟩ := (hFd _).1 hF
        exact (hFd _).2 ⟨hk7 _ _ _ i1 (by decide) (by decide), hk7 _ _ _ i2 (by decide) (by decide), u, hk7 _ _ _ i3 (by decide) (by decide)⟩
      refine ⟨fun _ => hF, ?_⟩
      have hS7 := hS6.chg st7 (by omega) hk7 hN7
      obtain ⟨ib1, ib2, vm7, ib3⟩ := (hFd _).1 hF
      (repeat (first
          | refine WR.nilk ?_
          | refine WR.nil ?_
          | refine WR.yld (fun _ h => h) rfl rfl rfl rfl (fun w' hx => by obtain ⟨i1, i2, u, i3⟩ := (hFd _).1 (hx hF); first | exact zyl | (exact by first | exact yld_load_cells rfl (Cells.ty_of (Cells.has i1)) | exact yld_load_cells rfl (Cells.has i1)) | exact yld_indexAddr_arr rfl rfl (by omega)) ?_
          | refine WR.skip rfl rfl rfl rfl ?_))
      refine WR.last0 rfl rfl rfl (stp_store_at (b := K.nb) (i := i) (cs := ncs) (t' := tTY) (hb := ib2) (by show some (Value.pointer (some ⟨K.nb, 0 + i * 1, none⟩)) = _; rw [Nat.mul_one, Nat.zero_add]) rfl (by omega) rfl) ?_
      rintro _ w8 u8
      have hni7 : (s6.clo w5.heap.size w6.heap.size).nm i = none := by
        show s6.nm i = none
        rw [m6.gle.nm]; exact hni
      have hS8 := hS7.setNm hlt hni7 ⟨_, _, rfl⟩ ib2 u8
      have hsp : s6.pk = s.pk := m6.gle.pk
      have st8 : Sta K 2 w7 w8 := sta_nb hS7.bl.bi.nbN ib2 u8
      have l8 := Gs.sle_setNm (v := .iface tAL (pt ab)) hni7
      have hS9 := hS8.next he (.al1 ab ob _ _ y hea (Gs.setNm_same ..) (by
        show TnV w8 ob (s6.pk e.pkg) e.name _
        rw [hsp]; exact TnV.sta st8 hob7) (Has.sta st8 hab) (((rt6'.sta st7 (by omega)).sta st8 (by omega)).sle l8) ⟨_, _, rfl⟩ ((hry.sta st8 (by omega)).sle l8) ⟨_, _, rfl⟩ hya (by
        rw [unalias_step hS7.bl.vd.sh (tN_kind i) (by rw [tN_n, Int.toNat_natCast]; exact he) hea]; exact hyu) fun hy1 => by
        obtain ⟨q1, q2, q3⟩ := hyr hy1
        exact ⟨q1, by omega⟩) fun h => by rw [hea] at h; cases h
      (repeat (first
          | refine WR.nilk ?_
          | refine WR.nil ?_
          | refine WR.yld (fun _ h => h) rfl rfl rfl rfl (fun w' hx => by obtain ⟨i1, i2, u, i3⟩ := (hFd _).1 (hx hF); first | exact zyl | (exact by first | exact yld_load_cells rfl (Cells.ty_of (Cells.has i1)) | exact yld_load_cells rfl (Cells.has i1)) | exact yld_indexAddr_arr rfl rfl (by omega)) ?_
          | refine WR.skip rfl rfl rfl rfl ?_))
      have hln6 := m6.len
      refine zst ?_
      exact ⟨i + 1, by omega, ⟨rfl, by omega, _, _, hS9, fun n e' he' ha' hn' => by
        show (if n = i then _ else s6.nm n) = none
        rw [if_neg (by omega), m6.gle.nm]
        exact hal n e' he' ha' (by omega), by rw [List.length_append]; omega⟩, sub_of ⟨rfl, rfl, rfl, rfl, rfl, trivial⟩⟩
  · rw [show decide ((i : Int) < (K.D.length : Int)) = false by simpa using hlt]
    obtain rfl : i = K.D.length := by omega
    rw [List.take_of_length_le (Nat.le_refl _)] at hlnk
    have hms : MsI K s wk wk.heap.size (cntM K.D 0 0) (fun _ => .slice none 0 0) (fun _ => []) := ⟨fun n e he ha => by
      obtain ⟨b, ob, T, ub, h1, h2, h3, h4⟩ := hS.no n e he ha (List.getElem?_eq_some_iff.1 he).1
      exact ⟨b, ob, T, ub, h1, h2, h3, h4, Own.nil .., by unfold cntM; simp; try omega, by unfold cntM; simp; try omega, fun q m f _ hf => by simp at hf⟩, fun n n' g _ h => (by cases h), fun n d _ h => (by cases h), fun n g h => (by cases h)⟩
    have hz := hS.bel.size
    have hb4 := build4 (a := a) (cp := cp) (p := p) hS.bl hS.dc hms (fun d hd => Nat.lt_of_lt_of_le (hP d hd) hz) hlnk (hd.same fun b hb => hS.bel.block b (hp b hb)) hp
    obtain ⟨c, hc1, hc2⟩ := hb4
    (repeat ((fail_if_success guard_target =~ gW (.seq (.region 15 _ _) _)); (fail_if_success guard_target =~ gW (.seq (.seq (.region 15 _ _) _) _)); refine zs1 ?_))
    exact W.useA (e' := [(0, .slice a K.D.length cp), (3, pt bb)]) ⟨c, hc1, hc2.mono (fin_imp fun v w' ⟨v1, k0, s', msv, mfb, k1, k2, k3, k4, _⟩ => ⟨v1, k0, s', _, msv, mfb, k1, hS.bel.trans k2, hS.bl.hN, k3, k4⟩)⟩ rfl ⟨rfl, rfl, trivial⟩
end Go.Proofs.YtpiegpegjbmlkaaGreatDoor
namespace Go.Proofs.YtpiegpegjbmlkaaGreatDoor
open Go Go.Kd
set_option maxRecDepth 100000

/-- the state when types are named -/
structure NSt (K : Cfg) (P : Nat → Prop) (w0 : World) (bb k : Nat) (w : World) (s : Gs) : Prop where
  bel : RowKit.Below K.N w0 w
  bl : BL K P s w bb []
  df : ∀ (n : Nat) e, K.D[n]? = some e → e.al = false → n < k → ∃ b ob, s.nm n = some (.iface tNP (pt b)) ∧ s.g b = some (tN n) ∧ TnV w ob (s.pk e.pkg) e.name (.iface tNP (pt b)) ∧ Has w b (.cells (nmc (pt ob) true 0 0 .nilIface .nilIface (.slice none 0 0)) tNM)
  no : ∀ (n : Nat) e, K.D[n]? = some e → (e.al = true ∨ k ≤ n) → s.nm n = none
section
variable {K : Cfg} {P : Nat → Prop} {w0 w w' : World} {bb k : Nat} {s : Gs}
theorem NSt.ext (x : Ext w w') (h : NSt K P w0 bb k w s) : NSt K P w0 bb k w' s := ⟨bel_ext h.bel x h.bl.hN, h.bl.ext x, fun n e he ha hn => by
  obtain ⟨b, ob, h1, h2, h3, h4⟩ := h.df n e he ha hn
  exact ⟨b, ob, h1, h2, Has.ext' x h3, h4.ext' x⟩, h.no⟩
/-- type k is named -/
theorem NSt.add (h : NSt K P w0 bb k w s) {e : De} (he : K.D[k]? = some e) (hal : e.al = false) {b ob : Nat} (hg : s.g b = none) (hb : Has w b (.cells (nmc (pt ob) true 0 0 .nilIface .nilIface (.slice none 0 0)) tNM)) (hNb : K.N ≤ b) (ht : TnV w ob (s.pk e.pkg) e.name (.iface tNP (pt b)))
    {cs : Array Value} (hcs : Has w K.nb (.cells cs tTY)) (u : Upd w K.nb (.cells (cs.setIfInBounds k (.iface tNP (pt b))) tTY) w') : NSt K P w0 bb (k + 1) w' ((s.set b (tN k)).setNm k (.iface tNP (pt b))) := by
  have hk := (List.getElem?_eq_some_iff.1 he).1
  have hn := h.no k e he (.inr (Nat.le_refl _))
  have h1 := h.bl.setG (t := tN k) hg hb.lt hNb (by rintro (h | ⟨h, _⟩) <;> cases h)
  have hn1 : (s.set b (tN k)).nm k = none := hn
  have l1 : s.sle (s.set b (tN k)) := (Gs.gle_set hg).sle
  have l := l1.trans (Gs.sle_setNm (v := .iface tNP (pt b)) hn1)
  have hN : ∀ {d t : Nat} {cs' : Array Value}, t ≠ tTY → Has w d (.cells cs' t) → Has w' d (.cells cs' t) := fun ht hh => ⟨(u.oth _ (Has.tne hh hcs ht)).trans hh.at_⟩
  refine ⟨bel_upd h.bel u h.bl.bi.nbN, h1.setNm hk hn1 ⟨_, _, rfl⟩ hcs u, fun n e' he' ha hn' => ?_, fun n e' he' ha => ?_⟩
  · by_cases hnk : n = k
    · subst hnk
      rw [he] at he'
      cases he'
      exact ⟨b, ob, Gs.setNm_same .., Gs.set_same .., hN (by decide) ht, hN (by decide) hb⟩
    · obtain ⟨b', ob', k1, k2, k3, k4⟩ := h.df n e' he' ha (by omega)
      exact ⟨b', ob', l.le.nm _ _ k1, l.le.g _ _ k2, hN (by decide) k3, hN (by decide) k4⟩
  · have hne : n ≠ k := fun e0 => by
      subst e0
      rw [he] at he'
      cases he'
      rcases ha with h | h
      · rw [hal] at h; cases h
      · omega
    show (if n = k then _ else s.nm n) = none
    rw [if_neg hne]
    exact h.no n e' he' (ha.imp id fun h => by omega)
/-- an alias is passed by -/
theorem NSt.skip (h : NSt K P w0 bb k w s) {e : De} (he : K.D[k]? = some e) (hal : e.al = true) : NSt K P w0 bb (k + 1) w s := ⟨h.bel, h.bl, fun n e' he' ha hn' => by
  by_cases hnk : n = k
  · subst hnk
    rw [he] at he'
    cases he'
    rw [hal] at ha; cases ha
  · exact h.df n e' he' ha (by omega), fun n e' he' ha => h.no n e' he' (ha.imp id fun h => by omega)⟩
theorem NSt.lst (h : NSt K P w0 bb K.D.length w s) : LSt K P w0 bb 0 w s [] := ⟨h.bel, h.bl, fun n e he => by
  rw [decide_eq_false (Nat.not_lt_zero n)]
  cases ha : e.al
  · obtain ⟨b, ob, h1, h2, h3, h4⟩ := h.df n e he ha (List.getElem?_eq_some_iff.1 he).1
    exact .def0 b ob ha h1 h2 h3 h4
  · exact .al0 ha, fun n e _ _ hn => absurd hn (Nat.not_lt_zero n)⟩
end

set_option maxHeartbeats 4000000 in
theorem build2 {K : Cfg} {P : Nat → Prop} {s0 : Gs} {w0 : World} {bb : Nat} {a : Option Addr} {cp : Nat} {p : Nat → Prop} (hL0 : NSt K P w0 bb 0 w0 s0) (hP : ∀ d, P d → d < w0.heap.size) (hd : DsV w0 p (.slice a K.D.length cp) K.D) (hp : ∀ b, p b → b < K.N) :
    ∃ c, dropA 2 (bodyA Tryz.f44) = some c ∧ W Tryz.prog 148 c (fin Tryz.prog Tryz.f44 (Ret (BuildR' K w0 bb))) [] [(0, .slice a K.D.length cp), (3, pt bb)] w0 := by
  have hDl : K.D.length ≤ 16777216 := by
    have := len_wtD K.D
    have := hL0.bl.wd
    omega
  refine ⟨_, rfl, ?_⟩
  refine zst ?_
  refine W.loop (σ := Nat) (fun k => [(27, .int .i64 k), (26, .int .i64 K.D.length), (25, .slice a K.D.length cp), (3, pt bb), (0, .slice a K.D.length cp)])
    (fun k D' wk => D' = [] ∧ k ≤ K.D.length ∧ ∃ s, NSt K P w0 bb k wk s)
    (fun k => K.D.length - k) 0 ⟨rfl, Nat.zero_le _, s0, hL0⟩ (by exact sub_of ⟨rfl, rfl, rfl, rfl, rfl, trivial⟩) ?_
  rintro i D' wk ⟨rfl, hi, s, hS⟩
  refine zst ?_
  by_cases hlt : i < K.D.length
  · rw [show decide ((i : Int) < (K.D.length : Int)) = true by simpa using hlt]
    have he := List.getElem?_eq_getElem hlt
    generalize K.D[i] = e at he
    obtain ⟨b, o, a3, c3, a4, c4, f, rfl, hpb, hc, hte, hms1, hms2⟩ := hd.next he
    have hck : Cells wk b (o + i * 12) (del e a3 c3 a4 c4) := Cells.sameB (hS.bel.block b (hp b hpb)) hc
    have hpkg := hS.bl.vd.pkg i e he
    have hNk := hS.bl.hN
    refine zst ?_
    refine WU.yld rfl rfl rfl (yld_load_cells rfl hck) ?_
    refine WU.stp rfl rfl rfl stp_alloc ?_
    rintro _ w2 ⟨b5, rfl, n2⟩
    refine zst ?_
    refine WU.stp0 rfl rfl (stp_store_whole rfl rfl rfl rfl) ?_
    rintro _ w3 u3
    have x3 : Ext wk w3 := (u3.ofNew n2).ext
    have ib5 : Has w3 b5 (.cells (del e a3 c3 a4 c4).toArray 51) := u3.has
    have hS3 := hS.ext x3
    clear u3 n2
    refine zst ?_
    cases hea : e.al
    · obtain ⟨vm, ncs, hbb3, hnb3, hnsz, hncell⟩ := hS3.bl.nr
      obtain ⟨c0, y0, hc0, _⟩ := hS3.bl.bi.pkg 0 (.inl rfl)
      obtain ⟨c1, y1, hc1, _⟩ := hS3.bl.bi.pkg 1 (.inr rfl)
      refine zst ?_
      obtain ⟨F, hFd⟩ : ∃ F : World → Prop, ∀ W, F W ↔ (Has W b5 (.cells (del e a3 c3 a4 c4).toArray 51) ∧ ∃ u, Has W bb (.cells #[s.pk 0, s.pk 1, .slice (some ⟨K.nb, 0, none⟩) K.D.length K.D.length, s.er, u] tBU)) := ⟨fun W => (Has W b5 (.cells (del e a3 c3 a4 c4).toArray 51) ∧ ∃ u, Has W bb (.cells #[s.pk 0, s.pk 1, .slice (some ⟨K.nb, 0, none⟩) K.D.length K.D.length, s.er, u] tBU)), fun _ => Iff.rfl⟩
      refine W.regR (R := fun a b => F a → F b) (fun _ h => h) (fun _ _ _ h k x => k (h x)) [(0, .q), (1, .q), (2, .q), (3, .q), (4, .q), (5, .q), (6, .q), (7, .l), (8, .l), (9, .q), (10, .q), (11, .z)] (by kernel_rfl) (by kernel_rfl) rfl ?_
      intro w4 x4 _
      have hF : F w4 := (hFd _).2 ⟨ib5.ext' x4, vm, hbb3.ext' x4⟩
      have hS4 := hS3.ext x4
      have hb4 := hbb3.ext' x4
      have hnb4 := hnb3.ext' x4
      have ib4 := ib5.ext' x4
      (repeat (first
          | refine WR.nilk ?_
          | refine WR.nil ?_
          | refine WR.yld (fun _ h => h) rfl rfl rfl rfl (fun w' hx => by obtain ⟨i1, u, i3⟩ := (hFd _).1 (hx hF); first | exact zyl | (exact by exact yld_load_cells rfl (Cells.has i1)) | exact yld_indexAddr_arr rfl rfl (by omega)) ?_
          | refine WR.skip rfl rfl rfl rfl ?_))
      refine WR.stp rfl rfl rfl rfl (stp_call rfl (c_name bb (s.pk 0) (s.pk 1) _ s.er vm e a3 c3 a4 c4 (fun k => match k with | 0 => some ⟨c0, 0, none⟩ | _ => some ⟨c1, 0, none⟩) w4 hc0 hc1 hb4 hpkg)) ?_
      rintro _ w5 ⟨ob, rfl, hobge, hob, x5⟩
      have hF : F w5 := by
        obtain ⟨i1, u, i3⟩ := (hFd _).1 hF
        exact (hFd _).2 ⟨i1.ext' x5, u, i3.ext' x5⟩
      refine ⟨fun _ => hF, ?_⟩
      have hob5 : TnV w5 ob (s.pk e.pkg) e.name .nilIface := by
        rcases hpkg with h | h
        · rw [h] at hob ⊢; rw [hc0]; exact hob
        · rw [h] at hob ⊢; rw [hc1]; exact hob
      (repeat (first
          | refine WR.nilk ?_
          | refine WR.nil ?_
          | refine WR.yld (fun _ h => h) rfl rfl rfl rfl (fun w' hx => by obtain ⟨i1, u, i3⟩ := (hFd _).1 (hx hF); first | exact zyl | (exact by exact yld_load_cells rfl (Cells.has i1)) | exact yld_indexAddr_arr rfl rfl (by omega)) ?_
          | refine WR.skip rfl rfl rfl rfl ?_))
      refine WR.stp rfl rfl rfl rfl (stp_call rfl (c_NewNamed ob (s.pk e.pkg) e.name w5 hob5)) ?_
      rintro _ w6 ⟨nb, rfl, hnbge, hnb, hob6, x6⟩
      have x46 : Ext w4 w6 := ⟨x5.below.trans (x6.mono hobge)⟩
      have hF : F w6 := (hFd _).2 ⟨ib4.ext' x46, vm, hb4.ext' x46⟩
      refine ⟨fun _ => hF, ?_⟩
      have hS6 := hS4.ext x46
      have hnb6 := hnb4.ext' x46
      have hge4 : w4.heap.size ≤ nb := by have := x5.size; omega
      have hg6 := hS4.bl.bi.fresh hge4
      (repeat (first
          | refine WR.nilk ?_
          | refine WR.nil ?_
          | refine WR.yld (fun _ h => h) rfl rfl rfl rfl (fun w' hx => by obtain ⟨i1, u, i3⟩ := (hFd _).1 (hx hF); first | exact zyl | (exact by exact yld_load_cells rfl (Cells.has i1)) | exact yld_indexAddr_arr rfl rfl (by omega)) ?_
          | refine WR.skip rfl rfl rfl rfl ?_))
      refine WR.last0 rfl rfl rfl (stp_store_at (b := K.nb) (i := i) (cs := ncs) (t' := tTY) (hb := hnb6) (by show some (Value.pointer (some ⟨K.nb, 0 + i * 1, none⟩)) = _; rw [Nat.mul_one, Nat.zero_add]) rfl (by omega) rfl) ?_
      rintro _ w8 u8
      have hS8 := hS6.add he hea hg6 hnb (by have := hS4.bl.hN; omega) hob6 hnb6 u8
      (repeat (first
          | refine WR.nilk ?_
          | refine WR.nil ?_
          | refine WR.yld (fun _ h => h) rfl rfl rfl rfl (fun w' hx => by obtain ⟨i1, u, i3⟩ := (hFd _).1 (hx hF); first | exact zyl | (exact by exact yld_load_cells rfl (Cells.has i1)) | exact yld_indexAddr_arr rfl rfl (by omega)) ?_
          | refine WR.skip rfl rfl rfl rfl ?_))
      refine zst ?_
      exact ⟨i + 1, by omega, ⟨rfl, by omega, _, hS8⟩, sub_of ⟨rfl, rfl, rfl, rfl, rfl, trivial⟩⟩
    · refine zst ?_
      exact ⟨i + 1, by omega, ⟨rfl, by omega, _, hS3.skip he hea⟩, sub_of ⟨rfl, rfl, rfl, rfl, rfl, trivial⟩⟩
  · rw [show decide ((i : Int) < (K.D.length : Int)) = false by simpa using hlt]
    obtain rfl : i = K.D.length := by omega
    have hz := hS.bel.size
    have hL : LSt K P wk bb 0 wk s [] := ⟨RowKit.Below.refl _ _, hS.lst.bl, hS.lst.dc, hS.lst.no⟩
    obtain ⟨c, hc1, hc2⟩ := build3 (a := a) (cp := cp) (p := p) hL (fun n e h1 h2 => hS.no n e h1 (.inl h2)) (fun d hd => Nat.lt_of_lt_of_le (hP d hd) hz) (hd.same fun b hb => hS.bel.block b (hp b hb)) hp
    (repeat ((fail_if_success guard_target =~ gW (.seq (.region 8 _ _) _)); (fail_if_success guard_target =~ gW (.seq (.seq (.region 8 _ _) _) _)); refine zs1 ?_))
    exact W.useA (e' := [(0, .slice a K.D.length cp), (3, pt bb)]) ⟨c, hc1, hc2.mono (fin_imp fun v w' ⟨v1, k0, s', base, msv, mfb, k1, k2, k3, k4, k5⟩ => ⟨v1, k0, s', base, msv, mfb, k1, hS.bel.trans k2, k3, k4, k5⟩)⟩ rfl ⟨rfl, rfl, trivial⟩
end Go.Proofs.YtpiegpegjbmlkaaGreatDoor
namespace Go.Proofs.YtpiegpegjbmlkaaGreatDoor
open Go Go.Kd
set_option maxRecDepth 100000

theorem ErrI.cfg {K K' : Cfg} {s : Gs} {w : World} (hq : ∀ b, s.sl b → b ≠ K'.nb) (h : ErrI K s w) : ErrI K' s w := by
  obtain ⟨b, ob, u, ms, nm, h1, h2, h3, h4, h5⟩ := h
  exact ⟨b, ob, u, ms, nm, h1, h2, h3, h4, h5.cfg hq⟩
/-- what NewError leaves -/
structure Er0 (K : Cfg) (pk : Int → Value) (lo hi : Nat) (w : World) (b : Nat) (s : Gs) : Prop where
  nm : s.nm = fun _ => none
  er : s.er = .iface tNP (pt b)
  pk : s.pk = pk
  sl : ∀ d, s.sl d → lo ≤ d ∧ d < hi
  ei : ErrI K s w
  g : ∀ c u, s.g c = some u → lo ≤ c ∧ c < hi ∧ (isIf u → WfI K.D u ∧ RT K s w s.sl (.iface tPI (pt c)) u ∧ TSv K s w all' c u)
theorem Er0.to {K K' : Cfg} {pk : Int → Value} {lo hi : Nat} {w w' : World} {b : Nat} {s : Gs} (h : Er0 K pk lo hi w b s) (x : Ext w w') (hD : K'.D = K.D) (hn : K'.nb < lo ∨ hi ≤ K'.nb) : Er0 K' pk lo hi w' b s := by
  have hq : ∀ b, s.sl b → b ≠ K'.nb := fun b hb => by have := h.sl b hb; omega
  exact ⟨h.nm, h.er, h.pk, h.sl, (h.ei.cfg hq).sta (l := 0) (.of_ext x) (by omega), fun c u hc => by
    obtain ⟨k1, k2, k3⟩ := h.g c u hc
    exact ⟨k1, k2, fun hu => by
      obtain ⟨q1, q2, q3⟩ := k3 hu
      exact ⟨by rw [hD]; exact q1, (q2.cfg hq).ext x, (q3.cfg hq hD).sta (l := 0) (.of_ext x) (by omega)⟩⟩⟩
/-- the state when the builder is there -/
def St1 (D : List De) (w0 : World) (v : Value) (e' : Env) (w' : World) : Prop := ∃ bb nb c0 c1 b lo hi x0 x1 s, subs e' [(0, v), (3, pt bb)] ∧ Ext w0 w' ∧ w0.heap.size ≤ bb ∧ w0.heap.size ≤ nb ∧ w0.heap.size ≤ lo ∧ hi ≤ w'.heap.size ∧
  Has w' bb (.cells #[pt c0, pt c1, .slice (some ⟨nb, 0, none⟩) D.length D.length, .iface tNP (pt b), .slice none 0 0] tBU) ∧ Has w' nb (.cells (List.replicate D.length .nilIface).toArray tTY) ∧
  Has w' c0 (.cells #[.string ⟨#[112]⟩, .string x0] tPK) ∧ Has w' c1 (.cells #[.string ⟨#[113]⟩, .string x1] tPK) ∧ Er0 ⟨w0.heap.size, nb, D⟩ (fun n => if n = 0 then pt c0 else pt c1) lo hi w' b s
theorem St1.nst {D : List De} {w0 w' : World} {v : Value} {e' : Env} (h : St1 D w0 v e' w') (hp : Prp w0) (hV : ValidD D) (hwd : wtD D ≤ 16777216) : ∃ nb bb s, subs e' [(0, v), (3, pt bb)] ∧ Ext w0 w' ∧ NSt ⟨w0.heap.size, nb, D⟩ (fun d => d < w'.heap.size) w' bb 0 w' s := by
  obtain ⟨bb, nb, c0, c1, b, lo, hi, x0, x1, s, hs, x, hb, hn, hlo, hhi, hbb, hnb, hc0, hc1, he⟩ := h
  have p0 : s.pk 0 = pt c0 := by rw [he.pk]; rfl
  have p1 : s.pk 1 = pt c1 := by rw [he.pk]; rfl
  have hbb' : Has w' bb (.cells #[s.pk 0, s.pk 1, .slice (some ⟨nb, 0, none⟩) D.length D.length, s.er, .slice none 0 0] tBU) := by rw [p0, p1, he.er]; exact hbb
  have hnn : ∀ i u, s.nm i = some u → False := fun i u hu => by rw [he.nm] at hu; cases hu
  refine ⟨nb, bb, s, hs, x, RowKit.Below.refl _ _, ⟨⟨hb, hn, hnb.lt, fun n hn => ?_, ⟨_, _, he.er⟩, fun i u hu => (hnn i u hu).elim, fun c u hc => ?_, fun d hd => ?_, fun b hb => (by cases hb), _, _, _, _, hbb', Own.nil .., fun i u hu => (hnn i u hu).elim⟩, ⟨_, _, hbb', hnb, by simp, fun i u hu => (hnn i u hu).elim⟩, he.ei, fun c u hc => ?_, hp.ext x, hp.lt, hV, hwd⟩, fun n e _ _ hn => absurd hn (Nat.not_lt_zero n), fun n e _ _ => by rw [he.nm]⟩
  · rcases hn with rfl | rfl
    · exact ⟨c0, x0, p0, hc0⟩
    · exact ⟨c1, x1, p1, hc1⟩
  · have := (he.g c u hc).2.1
    omega
  · have := (he.sl d hd).2
    omega
  · obtain ⟨k1, k2, k3⟩ := he.g c u hc
    refine ⟨by show w0.heap.size ≤ c; omega, fun hu => ?_⟩
    obtain ⟨q1, q2, q3⟩ := k3 hu
    exact ⟨q1, q2, .inl (q3.tr (Tr.staM (K := ⟨w0.heap.size, nb, D⟩) (l := 0) (.rfl' ..) (by omega) fun d hd _ => hd) (.sta (K := ⟨w0.heap.size, nb, D⟩) (l := 0) (.rfl' ..) (by omega) _))⟩

set_option maxHeartbeats 4000000 in
theorem c_build {D : List De} {w0 : World} {a : Option Addr} {cp : Nat} {p : Nat → Prop} (hp : Prp w0) (hV : ValidD D) (hwd : wtD D ≤ 16777216) (hd : DsV w0 p (.slice a D.length cp) D) (hpb : ∀ b, p b → b < w0.heap.size) :
    Calls Tryz.prog 44 #[.slice a D.length cp] w0 (Ret fun r w' => ∃ nb bb w1, Ext w0 w1 ∧ BuildR' ⟨w0.heap.size, nb, D⟩ w1 bb r w') := by
  have hDl : D.length ≤ 16777216 := by have := len_wtD D; omega
  have herr : ∀ (c0 c1 : Nat) (w : World), Ext w0 w → Has w c0 (.cells #[.string ⟨#[112]⟩, .string ⟨#[112]⟩] tPK) → Has w c1 (.cells #[.string ⟨#[113]⟩, .string ⟨#[113]⟩] tPK) → Calls Tryz.prog 75 #[] w (Ret fun r w' => Ext w w' ∧ ∃ b s, r = pt b ∧ Er0 ⟨w.heap.size, 0, D⟩ (fun n => if n = 0 then pt c0 else pt c1) w.heap.size w'.heap.size w' b s) := fun c0 c1 w x h0 h1 => by
    refine (c_NewError D (fun n => if n = 0 then pt c0 else pt c1) w (hp.ext x) (hp.ext x).lt hV.sh hwd fun n hn => ?_).mono fun x w' ⟨v, k0, k1, b, s, k2, k3, k4, k5, k6, k7, k8⟩ => ⟨v, k0, k1, b, s, k2, k3, k4, k5, k6, k7, k8⟩
    rcases hn with rfl | rfl
    · exact ⟨c0, _, rfl, h0⟩
    · exact ⟨c1, _, rfl, h1⟩
  refine W.enter (args := [.slice a D.length cp]) Tryz.func44 rfl Tryz.ntmps44 rfl rfl ?_
  (repeat ((fail_if_success guard_target =~ gW (.seq (.region 1 _ _) _)); (fail_if_success guard_target =~ gW (.seq (.seq (.region 1 _ _) _) _)); refine zs1 ?_))
  refine W.cutW (St1 D w0 (.slice a D.length cp)) ?_ ?_
  · refine W.regT ?_
    rintro w1 x1
    refine WT.q 3 (by kernel_rfl) (by kernel_rfl) (by kernel_rfl) rfl rfl rfl rfl zyl ?_
    refine WT.q 4 (by kernel_rfl) (by kernel_rfl) (by kernel_rfl) rfl rfl rfl rfl zyl ?_
    refine WT.two (i := 0) (j := 5) (by kernel_rfl) rfl rfl rfl rfl (stp_call rfl (c_NewPackage ⟨#[112]⟩ ⟨#[112]⟩ w1)) rfl rfl rfl rfl (stp_makeSlice (n := D.length) rfl rfl (by omega)) ?_ ?_
    · rintro _ w2 ⟨c0, rfl, n2⟩
      refine ⟨n2.ext, ?_⟩
      have h0 := n2.has
      refine WT.two (i := 1) (j := 5) (by kernel_rfl) rfl rfl rfl rfl (stp_call rfl (c_NewPackage ⟨#[113]⟩ ⟨#[113]⟩ w2)) rfl rfl rfl rfl (stp_makeSlice (n := D.length) rfl rfl (by omega)) ?_ ?_
      · rintro _ w3 ⟨c1, rfl, n3⟩
        refine ⟨n3.ext, ?_⟩
        have h1 := n3.has
        have h03 := h0.ext' n3.ext
        have x03 := (x1.trans n2.ext).trans n3.ext
        refine WT.q 2 (by kernel_rfl) (by kernel_rfl) (by kernel_rfl) rfl rfl rfl rfl (yld_buildArr rfl rfl) ?_
        refine WT.two (i := 5) (j := 6) (by kernel_rfl) rfl rfl rfl rfl (stp_makeSlice (n := D.length) rfl rfl (by omega)) rfl rfl rfl rfl (stp_call rfl (herr c0 c1 w3 x03 h03 h1)) ?_ ?_
        · rintro _ w4 ⟨nb, rfl, n4⟩
          refine ⟨n4.ext, ?_⟩
          refine WT.lin [(6, .l), (7, .q), (8, .q), (9, .l), (10, .q)] (by kernel_rfl) (by kernel_rfl) rfl ?_
          refine zsd ?_
          refine WD.stp rfl rfl rfl rfl (stp_call rfl (herr c0 c1 w4 (x03.trans n4.ext) (h03.ext' n4.ext) (h1.ext' n4.ext))) ?_
          rintro _ w5 ⟨x5, b, s, rfl, he⟩
          refine ⟨x5, ?_⟩
          refine zsd ?_
          refine WD.stp rfl rfl rfl rfl (by first | exact stp_box rfl rfl | exact stp_box1 rfl rfl) ?_
          rintro _ w6 ⟨bb, rfl, n6⟩
          refine ⟨n6.ext, ?_⟩
          refine zsd ?_
          have e4 := n4.num
          have e6 := n6.num
          have z2 := x03.size
          have z4 := n4.size
          have z5 := x5.size
          have z6 := n6.size
          exact ⟨rfl, rfl, bb, nb, c0, c1, b, w4.heap.size, w5.heap.size, _, _, s, ⟨rfl, rfl, trivial⟩, ((x03.trans n4.ext).trans x5).trans n6.ext, by omega, by omega, by omega, by omega, n6.has, (n4.has.ext' x5).ext' n6.ext, ((h03.ext' n4.ext).ext' x5).ext' n6.ext, ((h1.ext' n4.ext).ext' x5).ext' n6.ext, he.to n6.ext rfl (.inl (by show nb < _; omega))⟩
        · rintro _ w4 ⟨x4, b, s, rfl, he⟩
          refine ⟨x4, ?_⟩
          refine WT.lin [(7, .q), (5, .l), (8, .q), (9, .l), (10, .q)] (by kernel_rfl) (by kernel_rfl) rfl ?_
          refine zsd ?_
          refine WD.stp rfl rfl rfl rfl (stp_makeSlice (n := D.length) rfl rfl (by omega)) ?_
          rintro _ w5 ⟨nb, rfl, n5⟩
          refine ⟨n5.ext, ?_⟩
          refine zsd ?_
          refine WD.stp rfl rfl rfl rfl (by first | exact stp_box rfl rfl | exact stp_box1 rfl rfl) ?_
          rintro _ w6 ⟨bb, rfl, n6⟩
          refine ⟨n6.ext, ?_⟩
          refine zsd ?_
          have e5 := n5.num
          have e6 := n6.num
          have z2 := x03.size
          have z4 := x4.size
          have z5 := n5.size
          have z6 := n6.size
          exact ⟨rfl, rfl, bb, nb, c0, c1, b, w3.heap.size, w4.heap.size, _, _, s, ⟨rfl, rfl, trivial⟩, ((x03.trans x4).trans n5.ext).trans n6.ext, by omega, by omega, by omega, by omega, n6.has, n5.has.ext' n6.ext, ((h03.ext' x4).ext' n5.ext).ext' n6.ext, ((h1.ext' x4).ext' n5.ext).ext' n6.ext, (he.to n5.ext rfl (K' := ⟨w0.heap.size, nb, D⟩) (.inr (by show _ ≤ nb; omega))).to n6.ext rfl (.inr (by show _ ≤ nb; omega))⟩
      · rintro _ w3 ⟨nb, rfl, n3⟩
        refine ⟨n3.ext, ?_⟩
        refine WT.lin [(1, .l), (2, .q), (6, .l), (7, .q), (8, .q), (9, .l), (10, .q)] (by kernel_rfl) (by kernel_rfl) rfl ?_
        refine zsd ?_
        refine WD.stp rfl rfl rfl rfl (stp_call rfl (c_NewPackage ⟨#[113]⟩ ⟨#[113]⟩ w3)) ?_
        rintro _ w4 ⟨c1, rfl, n4⟩
        refine ⟨n4.ext, ?_⟩
        have h1 := n4.has
        have h04 := (h0.ext' n3.ext).ext' n4.ext
        have x04 := ((x1.trans n2.ext).trans n3.ext).trans n4.ext
        refine zsd ?_
        refine WD.yld rfl rfl rfl rfl (yld_buildArr rfl rfl) ?_
        refine zsd ?_
        refine WD.stp rfl rfl rfl rfl (stp_call rfl (herr c0 c1 w4 x04 h04 h1)) ?_
        rintro _ w5 ⟨x5, b, s, rfl, he⟩
        refine ⟨x5, ?_⟩
        refine zsd ?_
        refine WD.stp rfl rfl rfl rfl (by first | exact stp_box rfl rfl | exact stp_box1 rfl rfl) ?_
        rintro _ w6 ⟨bb, rfl, n6⟩
        refine ⟨n6.ext, ?_⟩
        refine zsd ?_
        have e3 := n3.num
        have e6 := n6.num
        have z1 := x1.size
        have z2 := n2.size
        have z3 := n3.size
        have z4 := n4.size
        have z5 := x5.size
        have z6 := n6.size
        exact ⟨rfl, rfl, bb, nb, c0, c1, b, w4.heap.size, w5.heap.size, _, _, s, ⟨rfl, rfl, trivial⟩, (x04.trans x5).trans n6.ext, by omega, by omega, by omega, by omega, n6.has, ((n3.has.ext' n4.ext).ext' x5).ext' n6.ext, (h04.ext' x5).ext' n6.ext, (h1.ext' x5).ext' n6.ext, he.to n6.ext rfl (.inl (by show nb < _; omega))⟩
    · rintro _ w2 ⟨nb, rfl, n2⟩
      refine ⟨n2.ext, ?_⟩
      refine WT.lin [(0, .l), (1, .l), (2, .q), (6, .l), (7, .q), (8, .q), (9, .l), (10, .q)] (by kernel_rfl) (by kernel_rfl) rfl ?_
      refine zsd ?_
      refine WD.stp rfl rfl rfl rfl (stp_call rfl (c_NewPackage ⟨#[112]⟩ ⟨#[112]⟩ w2)) ?_
      rintro _ w3 ⟨c0, rfl, n3⟩
      refine ⟨n3.ext, ?_⟩
      have h0 := n3.has
      refine zsd ?_
      refine WD.stp rfl rfl rfl rfl (stp_call rfl (c_NewPackage ⟨#[113]⟩ ⟨#[113]⟩ w3)) ?_
      rintro _ w4 ⟨c1, rfl, n4⟩
      refine ⟨n4.ext, ?_⟩
      have h1 := n4.has
      have h04 := h0.ext' n4.ext
      have x04 := ((x1.trans n2.ext).trans n3.ext).trans n4.ext
      refine zsd ?_
      refine WD.yld rfl rfl rfl rfl (yld_buildArr rfl rfl) ?_
      refine zsd ?_
      refine WD.stp rfl rfl rfl rfl (stp_call rfl (herr c0 c1 w4 x04 h04 h1)) ?_
      rintro _ w5 ⟨x5, b, s, rfl, he⟩
      refine ⟨x5, ?_⟩
      refine zsd ?_
      refine WD.stp rfl rfl rfl rfl (by first | exact stp_box rfl rfl | exact stp_box1 rfl rfl) ?_
      rintro _ w6 ⟨bb, rfl, n6⟩
      refine ⟨n6.ext, ?_⟩
      refine zsd ?_
      have e2 := n2.num
      have e6 := n6.num
      have z1 := x1.size
      have z2 := n2.size
      have z3 := n3.size
      have z4 := n4.size
      have z5 := x5.size
      have z6 := n6.size
      exact ⟨rfl, rfl, bb, nb, c0, c1, b, w4.heap.size, w5.heap.size, _, _, s, ⟨rfl, rfl, trivial⟩, (x04.trans x5).trans n6.ext, by omega, by omega, by omega, by omega, n6.has, (((n2.has.ext' n3.ext).ext' n4.ext).ext' x5).ext' n6.ext, (h04.ext' x5).ext' n6.ext, (h1.ext' x5).ext' n6.ext, he.to n6.ext rfl (.inl (by show nb < _; omega))⟩
  · rintro e' w1 h1
    obtain ⟨nb, bb, s, hs, x, hN⟩ := h1.nst hp hV hwd
    obtain ⟨c, hc1, hc2⟩ := build2 (a := a) (cp := cp) (p := p) hN (fun d hd => hd) (hd.ext x) hpb
    exact W.useA (e' := [(0, .slice a D.length cp), (3, pt bb)]) ⟨c, hc1, hc2.mono (fin_imp fun v w' ⟨v1, k0, k⟩ => ⟨v1, k0, nb, bb, w1, x, k⟩)⟩ rfl hs
end Go.Proofs.YtpiegpegjbmlkaaGreatDoor
namespace Go.Proofs.YtpiegpegjbmlkaaGreatDoor
open Go Go.Kd Go.ChangeShapes Go.WideShapes
set_option maxRecDepth 100000

theorem lists_of {α : Type} {n : Nat} {p : Nat → α → Prop} (h : ∀ i, i < n → ∃ x, p i x) : ∃ l : List α, l.length = n ∧ ∀ i x, l[i]? = some x → p i x := by
  induction n with
  | zero => exact ⟨[], rfl, fun i x h => by simp at h⟩
  | succ n ih =>
    obtain ⟨l, h1, h2⟩ := ih fun i hi => h i (by omega)
    obtain ⟨x, hx⟩ := h n (by omega)
    refine ⟨l ++ [x], by simp [h1], fun i y hy => ?_⟩
    by_cases hi : i < l.length
    · rw [List.getElem?_append_left hi] at hy
      exact h2 i y hy
    · have hlt := (List.getElem?_eq_some_iff.1 hy).1
      simp at hlt
      obtain rfl : i = l.length := by omega
      simp at hy
      subst hy
      rw [h1]; exact hx
section
variable {H : Type} {enc : TypeId × Value → H} {W : World} {sp : Nat → Bool} {held : Bool}
theorem bulk_sum {α : Type} (B : α → Nat) : ∀ (es : List α) (ds : List (DataW H)), es.length = ds.length → (∀ (i : Nat) e d, es[i]? = some e → ds[i]? = some d → B e ≤ Rows.uptoBulk d) → (es.map B).sum ≤ Rows.uptoBulkAll ds
  | [], [], _, _ => Nat.zero_le _
  | e :: es, d :: ds, hl, h => by
    have h0 := h 0 e d rfl rfl
    have := bulk_sum B es ds (by simpa using hl) fun i e d he hd => h (i + 1) e d (by simpa using he) (by simpa using hd)
    simp only [List.map_cons, List.sum_cons, Rows.uptoBulkAll]
    omega
  | [], _ :: _, hl, _ => by simp at hl
  | _ :: _, [], hl, _ => by simp at hl
theorem cells_open {a : Addr} {k sz : Nat} {cs : List Value} (hs : a.spot = none) (h : W.cells? 0 (a.add k) sz = some cs) : Cells W a.block (a.off + k) cs ∧ cs.length = sz := by
  obtain ⟨b, o, s⟩ := a
  simp at hs
  subst hs
  obtain ⟨_, h2, h3⟩ := World.cells?_some h
  refine ⟨fun j v hv => ?_, h2⟩
  have hj := (List.getElem?_eq_some_iff.1 hv).1
  have := h3 j (by omega)
  rw [Go.WideShapes.add_plain, Go.WideShapes.add_plain] at this
  rw [← hv]; exact this
theorem slice_open {α : Type} (R : List Value → α → Prop) (B : α → Nat) {P : Program} {t e fuel sz : Nat} {c : Value} {x : DataW H × List MemPlace} (ht : P.underlying t = some (.slice e)) (hsz : P.cellsOf e = sz) (hpos : 0 < sz) (h : DataW.trod enc P W 0 sp held fuel t [c] = some x)
    (ih : ∀ n, n < fuel → ∀ cs y, DataW.trod enc P W 0 sp held n e cs = some y → ∃ a, R cs a ∧ B a ≤ Rows.uptoBulk y.1) :
    ∃ (a : Option Addr) (cp : Nat) (es : List α) (f : Nat → List Value), c = .slice a es.length cp ∧ es.length ≤ cp ∧ SlC W (fun b => b < W.heap.size) sz a es.length f ∧ (∀ (i : Nat) e, es[i]? = some e → R (f i) e) ∧ (es.map B).sum + 1 ≤ Rows.uptoBulk x.1 := by
  rcases DataW.trod_slice ht h with ⟨h1, rfl⟩ | ⟨a, len, cap, elems, rest, n, rfl, h1, rfl, _, hlc, _, hlen, hel, _⟩
  · simp at h1
    subst h1
    exact ⟨none, 0, [], fun _ => [], rfl, Nat.le_refl _, fun i hi => by simp at hi, fun i e he => by simp at he, by simp [Rows.uptoBulk]⟩
  · simp at h1
    subst h1
    rw [hsz] at hel
    have key : ∀ i, i < len → ∃ q : List Value × α × DataW H, W.cells? 0 (a.add (i * sz)) sz = some q.1 ∧ R q.1 q.2.1 ∧ B q.2.1 ≤ Rows.uptoBulk q.2.2 ∧ (elems.map (·.1))[i]? = some q.2.2 := fun i hi => by
      have h2 := hel i hi
      rw [List.getElem?_eq_getElem (by omega), Option.bind_eq_some_iff] at h2
      obtain ⟨cs, h3, h4⟩ := h2
      obtain ⟨q, h5, h6⟩ := ih n (Nat.lt_succ_self n) cs _ h4
      exact ⟨(cs, q, elems[i].1), h3, h5, h6, by rw [List.getElem?_map, List.getElem?_eq_getElem (by omega)]; rfl⟩
    obtain ⟨l, hl, hall⟩ := lists_of key
    have hmb : (l.map fun q => q.2.1).length = len := by rw [List.length_map, hl]
    have hat : ∀ i, i < len → ∃ q, l[i]? = some q := fun i hi => ⟨_, List.getElem?_eq_getElem (by omega)⟩
    have hfi : ∀ (i : Nat) q, l[i]? = some q → (l.map (·.1)).getD i [] = q.1 := fun i q hq => by
      rw [List.getD_eq_getElem?_getD, List.getElem?_map, hq]
      rfl
    refine ⟨some a, cap, l.map fun q => q.2.1, fun i => (l.map (·.1)).getD i [], by rw [hmb], by omega, fun i hi => ?_, fun i e he => ?_, ?_⟩
    · rw [hmb] at hi
      obtain ⟨q0, hq0⟩ := hat 0 (by omega)
      obtain ⟨q, hq⟩ := hat i hi
      obtain ⟨k0, _⟩ := hall 0 q0 hq0
      obtain ⟨k1, _⟩ := hall i q hq
      have hs : a.spot = none := by
        obtain ⟨_, h2, h3⟩ := World.cells?_some k0
        have h4 := h3 0 hpos
        rw [List.getElem?_eq_getElem (by omega)] at h4
        have h5 : (a.add (0 * sz)).add 0 = a := by simp [Addr.add]
        rw [h5] at h4
        unfold World.cell? at h4
        split at h4
        · split at h4
          · cases h4
          · rename_i hns
            simpa using hns
        · cases h4
      have hb : a.block < W.heap.size := by
        have h1 := World.cells?_block k0 hpos
        have h5 : a.add (0 * sz) = a := by simp [Addr.add]
        rwa [h5] at h1
      obtain ⟨b, o, s⟩ := a
      simp at hs
      subst hs
      exact ⟨b, o, rfl, hb, by show Cells W b (o + i * sz) ((l.map (·.1)).getD i []); rw [hfi i q hq]; exact (cells_open rfl k1).1⟩
    · rw [List.getElem?_map, Option.map_eq_some_iff] at he
      obtain ⟨q, hq, rfl⟩ := he
      show R ((l.map (·.1)).getD i []) q.2.1
      rw [hfi i q hq]
      exact (hall i q hq).2.1
    · have := bulk_sum B (l.map fun q => q.2.1) (elems.map (·.1)) (by rw [hmb, List.length_map, hlen]) fun i e d he hd => by
        rw [List.getElem?_map, Option.map_eq_some_iff] at he
        obtain ⟨q, hq, rfl⟩ := he
        obtain ⟨_, _, k3, k4⟩ := hall i q hq
        rw [k4] at hd
        cases hd
        exact k3
      simp only [Rows.uptoBulk]
      omega
theorem wts_sum : ∀ l : List Ty, wts l = (l.map wt).sum
  | [] => by simp [wts]
  | e :: r => by simp only [wts, List.map_cons, List.sum_cons, wts_sum r]

theorem cT : Tryz.prog.cellsOf 26 = 8 := by kernel_rfl
theorem cM : Tryz.prog.cellsOf 92 = 9 := by kernel_rfl
theorem cD : Tryz.prog.cellsOf 51 = 12 := by kernel_rfl
theorem cI : Tryz.prog.cellsOf 3 = 1 := by kernel_rfl
theorem cK : Tryz.prog.cellsOf 23 = 1 := by kernel_rfl
theorem cB : Tryz.prog.cellsOf 4 = 1 := by kernel_rfl
theorem cS : Tryz.prog.cellsOf 9 = 1 := by kernel_rfl
theorem cLT : Tryz.prog.cellsOf 24 = 1 := by kernel_rfl
theorem cLM : Tryz.prog.cellsOf 49 = 1 := by kernel_rfl
theorem list8 {α : Type} {l : List α} (h : l.length = 8) : ∃ a b c d e f g i, l = [a, b, c, d, e, f, g, i] := by
  match l, h with
  | [a, b, c, d, e, f, g, i], _ => exact ⟨a, b, c, d, e, f, g, i, rfl⟩
theorem one {α : Type} {a b : α} (h : [a] = [b]) : a = b := by simpa using h
theorem ty_open : ∀ (fuel : Nat) (cs : List Value) (x : DataW H × List MemPlace), DataW.trod enc Tryz.prog W 0 sp held fuel 26 cs = some x → ∃ t, TyV W (fun b => b < W.heap.size) cs t ∧ wt t ≤ Rows.uptoBulk x.1 := by
  intro fuel
  induction fuel using Nat.strongRecOn with
  | ind fuel ih =>
    intro cs x h
    obtain ⟨xs, n, rfl, rfl, hl, hlen, hf⟩ := DataW.trod_struct Tryz.underlying26 h
    rw [cT] at hl
    obtain ⟨c0, c1, c2, c3, c4, c5, c6, c7, rfl⟩ := list8 hl
    obtain ⟨x0, x1, x2, x3, x4, x5, x6, x7, rfl⟩ := list8 (l := xs) hlen
    have h0 : DataW.trod enc Tryz.prog W 0 sp held n 23 [c0] = some x0 := by
      have h := hf 0 _ rfl
      change DataW.trod enc Tryz.prog W 0 sp held n 23 (List.take (Tryz.prog.cellsOf 23) (List.drop 0 [c0, c1, c2, c3, c4, c5, c6, c7])) = some x0 at h
      rw [cK] at h
      exact h
    have h1 : DataW.trod enc Tryz.prog W 0 sp held n 3 [c1] = some x1 := by
      have h := hf 1 _ rfl
      change DataW.trod enc Tryz.prog W 0 sp held n 3 (List.take (Tryz.prog.cellsOf 3) (List.drop 1 [c0, c1, c2, c3, c4, c5, c6, c7])) = some x1 at h
      rw [cI] at h
      exact h
    have h2 : DataW.trod enc Tryz.prog W 0 sp held n 3 [c2] = some x2 := by
      have h := hf 2 _ rfl
      change DataW.trod enc Tryz.prog W 0 sp held n 3 (List.take (Tryz.prog.cellsOf 3) (List.drop 2 [c0, c1, c2, c3, c4, c5, c6, c7])) = some x2 at h
      rw [cI] at h
      exact h
    have h3 : DataW.trod enc Tryz.prog W 0 sp held n 4 [c3] = some x3 := by
      have h := hf 3 _ rfl
      change DataW.trod enc Tryz.prog W 0 sp held n 4 (List.take (Tryz.prog.cellsOf 4) (List.drop 3 [c0, c1, c2, c3, c4, c5, c6, c7])) = some x3 at h
      rw [cB] at h
      exact h
    have h4 : DataW.trod enc Tryz.prog W 0 sp held n 24 [c4] = some x4 := by
      have h := hf 4 _ rfl
      change DataW.trod enc Tryz.prog W 0 sp held n 24 (List.take (Tryz.prog.cellsOf 24) (List.drop 4 [c0, c1, c2, c3, c4, c5, c6, c7])) = some x4 at h
      rw [cLT] at h
      exact h
    have h5 : DataW.trod enc Tryz.prog W 0 sp held n 9 [c5] = some x5 := by
      have h := hf 5 _ rfl
      change DataW.trod enc Tryz.prog W 0 sp held n 9 (List.take (Tryz.prog.cellsOf 9) (List.drop 5 [c0, c1, c2, c3, c4, c5, c6, c7])) = some x5 at h
      rw [cS] at h
      exact h
    have h6 : DataW.trod enc Tryz.prog W 0 sp held n 9 [c6] = some x6 := by
      have h := hf 6 _ rfl
      change DataW.trod enc Tryz.prog W 0 sp held n 9 (List.take (Tryz.prog.cellsOf 9) (List.drop 6 [c0, c1, c2, c3, c4, c5, c6, c7])) = some x6 at h
      rw [cS] at h
      exact h
    have h7 : DataW.trod enc Tryz.prog W 0 sp held n 4 [c7] = some x7 := by
      have h := hf 7 _ rfl
      change DataW.trod enc Tryz.prog W 0 sp held n 4 (List.take (Tryz.prog.cellsOf 4) (List.drop 7 [c0, c1, c2, c3, c4, c5, c6, c7])) = some x7 at h
      rw [cB] at h
      exact h
    obtain ⟨k, e0, rfl, _⟩ := DataW.trod_int Tryz.underlying23 h0
    obtain ⟨m, e1, rfl, _⟩ := DataW.trod_int Tryz.underlying3 h1
    obtain ⟨c, e2, rfl, _⟩ := DataW.trod_int Tryz.underlying3 h2
    obtain ⟨vr, e3, rfl⟩ := DataW.trod_bool Tryz.underlying4 h3
    obtain ⟨nm, e5, rfl, _⟩ := DataW.trod_string Tryz.underlying9 h5
    obtain ⟨tg, e6, rfl, _⟩ := DataW.trod_string Tryz.underlying9 h6
    obtain ⟨em, e7, rfl⟩ := DataW.trod_bool Tryz.underlying4 h7
    obtain rfl := one e0
    obtain rfl := one e1
    obtain rfl := one e2
    obtain rfl := one e3
    obtain rfl := one e5
    obtain rfl := one e6
    obtain rfl := one e7
    obtain ⟨a, cp, es, f, rfl, hcp, hsl, hR, hB⟩ := slice_open (TyV W (fun b => b < W.heap.size)) wt Tryz.underlying24 cT (by decide) h4 fun q hq => ih q (by omega)
    refine ⟨_, .mk k m c vr es nm tg em a cp f hR hsl hcp, ?_⟩
    rw [wt_eq]
    simp only [Ty.elems, Ty.name, Ty.tag, wts_sum, List.map_cons, List.map_nil, Rows.uptoBulk, Rows.uptoBulkAll, Array.length_toList]
    have k5 : nm.data.size = nm.size := rfl
    have k6 : tg.data.size = tg.size := rfl
    omega
theorem me_open (fuel : Nat) (cs : List Value) (x : DataW H × List MemPlace) (h : DataW.trod enc Tryz.prog W 0 sp held fuel 92 cs = some x) : ∃ m : Me, MeV W (fun b => b < W.heap.size) cs m ∧ wt m.fn ≤ Rows.uptoBulk x.1 := by
  obtain ⟨xs, n, rfl, rfl, hl, hlen, hf⟩ := DataW.trod_struct Tryz.underlying92 h
  rw [cM] at hl
  match cs, hl, xs, hlen with
  | c0 :: ts, hl, [x0, x1], _ =>
    have hts : ts.length = 8 := by simpa using hl
    have h0 : DataW.trod enc Tryz.prog W 0 sp held n 4 [c0] = some x0 := by
      have h := hf 0 _ rfl
      change DataW.trod enc Tryz.prog W 0 sp held n 4 (List.take (Tryz.prog.cellsOf 4) (List.drop 0 (c0 :: ts))) = some x0 at h
      rw [cB] at h
      exact h
    have h1 : DataW.trod enc Tryz.prog W 0 sp held n 26 ts = some x1 := by
      have h := hf 1 _ rfl
      change DataW.trod enc Tryz.prog W 0 sp held n 26 (List.take (Tryz.prog.cellsOf 26) (List.drop 1 (c0 :: ts))) = some x1 at h
      rw [cT] at h
      rw [show List.take 8 (List.drop 1 (c0 :: ts)) = ts from by rw [List.drop_succ_cons, List.drop_zero, List.take_of_length_le (by omega)]] at h
      exact h
    obtain ⟨p, e0, rfl⟩ := DataW.trod_bool Tryz.underlying4 h0
    obtain rfl := one e0
    obtain ⟨t, k1, k2⟩ := ty_open n ts x1 h1
    exact ⟨⟨p, t⟩, ⟨ts, rfl, k1⟩, by simp only [List.map_cons, List.map_nil, Rows.uptoBulk, Rows.uptoBulkAll]; omega⟩
theorem de_open (fuel : Nat) (cs : List Value) (x : DataW H × List MemPlace) (h : DataW.trod enc Tryz.prog W 0 sp held fuel 51 cs = some x) : ∃ e : De, DeV W (fun b => b < W.heap.size) cs e ∧ wtDe e ≤ Rows.uptoBulk x.1 := by
  obtain ⟨xs, n, rfl, rfl, hl, hlen, hf⟩ := DataW.trod_struct Tryz.underlying51 h
  rw [cD] at hl
  match cs, hl, xs, hlen with
  | [c0, c1, c2, t0, t1, t2, t3, t4, t5, t6, t7, c3], _, [x0, x1, x2, x3, x4], _ =>
    have h0 : DataW.trod enc Tryz.prog W 0 sp held n 9 [c0] = some x0 := by
      have h := hf 0 _ rfl
      change DataW.trod enc Tryz.prog W 0 sp held n 9 (List.take (Tryz.prog.cellsOf 9) (List.drop 0 [c0, c1, c2, t0, t1, t2, t3, t4, t5, t6, t7, c3])) = some x0 at h
      rw [cS] at h
      exact h
    have h1 : DataW.trod enc Tryz.prog W 0 sp held n 3 [c1] = some x1 := by
      have h := hf 1 _ rfl
      change DataW.trod enc Tryz.prog W 0 sp held n 3 (List.take (Tryz.prog.cellsOf 3) (List.drop 1 [c0, c1, c2, t0, t1, t2, t3, t4, t5, t6, t7, c3])) = some x1 at h
      rw [cI] at h
      exact h
    have h2 : DataW.trod enc Tryz.prog W 0 sp held n 4 [c2] = some x2 := by
      have h := hf 2 _ rfl
      change DataW.trod enc Tryz.prog W 0 sp held n 4 (List.take (Tryz.prog.cellsOf 4) (List.drop 2 [c0, c1, c2, t0, t1, t2, t3, t4, t5, t6, t7, c3])) = some x2 at h
      rw [cB] at h
      exact h
    have h3 : DataW.trod enc Tryz.prog W 0 sp held n 26 [t0, t1, t2, t3, t4, t5, t6, t7] = some x3 := by
      have h := hf 3 _ rfl
      change DataW.trod enc Tryz.prog W 0 sp held n 26 (List.take (Tryz.prog.cellsOf 26) (List.drop 3 [c0, c1, c2, t0, t1, t2, t3, t4, t5, t6, t7, c3])) = some x3 at h
      rw [cT] at h
      exact h
    have h4 : DataW.trod enc Tryz.prog W 0 sp held n 49 [c3] = some x4 := by
      have h := hf 4 _ rfl
      change DataW.trod enc Tryz.prog W 0 sp held n 49 (List.take (Tryz.prog.cellsOf 49) (List.drop 11 [c0, c1, c2, t0, t1, t2, t3, t4, t5, t6, t7, c3])) = some x4 at h
      rw [cLM] at h
      exact h
    obtain ⟨nm, e0, rfl, _⟩ := DataW.trod_string Tryz.underlying9 h0
    obtain ⟨q, e1, rfl, _⟩ := DataW.trod_int Tryz.underlying3 h1
    obtain ⟨al, e2, rfl⟩ := DataW.trod_bool Tryz.underlying4 h2
    obtain rfl := one e0
    obtain rfl := one e1
    obtain rfl := one e2
    obtain ⟨t, k1, k2⟩ := ty_open n _ x3 h3
    obtain ⟨a, cp, es, f, rfl, hcp, hsl, hR, hB⟩ := slice_open (MeV W (fun b => b < W.heap.size)) (fun m => wt m.fn) Tryz.underlying49 cM (by decide) h4 fun q _ => me_open q
    refine ⟨⟨nm, q, al, t, es⟩, ⟨_, a, cp, f, rfl, k1, hsl, hR⟩, ?_⟩
    have k5 : nm.data.size = nm.size := rfl
    simp only [wtDe, wtM, List.map_cons, List.map_nil, Rows.uptoBulk, Rows.uptoBulkAll, Array.length_toList] at hB ⊢
    omega
/-- declarations among the arguments -/
theorem ds_of {v : Value} {base : Nat} {d : DataW H} {ps : List MemPlace} (hv : Value.okWide Tryz.prog W .any base 22 v) (h : DataW.Trod enc Tryz.prog W 0 sp held 22 v d ps) : ∃ (D : List De) (a : Option Addr) (cp : Nat), v = .slice a D.length cp ∧ DsV W (fun b => b < W.heap.size) v D ∧ wtD D + 1 ≤ Rows.uptoBulk d := by
  obtain ⟨a0, len, cap, rfl⟩ := okWide_slice Tryz.underlying22 hv
  obtain ⟨fuel, hf⟩ := h
  obtain ⟨a, cp, es, f, he, hcp, hsl, hR, hB⟩ := slice_open (DeV W (fun b => b < W.heap.size)) wtDe Tryz.underlying22 cD (by decide) hf fun q _ => de_open q
  exact ⟨es, a, cp, he, ⟨a, cp, f, he, hsl, hR⟩, hB⟩
/-- a type among the arguments -/
theorem ty_of {v : Value} {base : Nat} {d : DataW H} {ps : List MemPlace} (hv : Value.okWide Tryz.prog W .any base 26 v) (h : DataW.Trod enc Tryz.prog W 0 sp held 26 v d ps) : ∃ (t : Ty) (a : Option Addr) (cp : Nat), v = .agg (tyc t a cp).toArray ∧ TysV W (fun b => b < W.heap.size) a cp t.elems ∧ wt t ≤ Rows.uptoBulk d := by
  obtain ⟨cs, rfl, _⟩ := okWide_struct Tryz.underlying26 hv
  obtain ⟨fuel, hf⟩ := h
  obtain ⟨t, k1, k2⟩ := ty_open fuel _ _ hf
  obtain ⟨a, cp, k3, k4⟩ := k1.tys
  refine ⟨t, a, cp, ?_, k4, k2⟩
  rw [show cs = cs.toList.toArray from by simp]
  have : cs.toList = tyc t a cp := k3
  rw [this]
end
end Go.Proofs.YtpiegpegjbmlkaaGreatDoor
namespace Go.Proofs.YtpiegpegjbmlkaaGreatDoor
open Go Go.Kd
set_option maxRecDepth 100000

/-- what build answers, in short -/
theorem c_build' {D : List De} {w0 : World} {a : Option Addr} {cp : Nat} {p : Nat → Prop} (hp : Prp w0) (hV : ValidD D) (hwd : wtD D ≤ 16777216) (hd : DsV w0 p (.slice a D.length cp) D) (hpb : ∀ b, p b → b < w0.heap.size) :
    Calls Tryz.prog 44 #[.slice a D.length cp] w0 (Ret fun r w' => ∃ K s bb, r = pt bb ∧ K.D = D ∧ K.N = w0.heap.size ∧ Ext w0 w' ∧ Blt K s w' bb) := by
  refine (c_build hp hV hwd hd hpb).mono fun x w' ⟨v, k0, nb, bb, w1, x1, s, base, msv, mfb, k1, k2, k3, k4, k5⟩ => ⟨v, k0, ⟨w0.heap.size, nb, D⟩, s, bb, k1, rfl, rfl, ⟨x1.below.trans k2⟩, k4⟩
theorem ext_sta {K : Cfg} {l : Nat} {w0 w w' : World} (x : Ext w0 w) (hN : w0.heap.size ≤ K.N) (s : Sta K l w w') : Ext w0 w' := ⟨x.below.trans ⟨s.os, s.tape, s.output, s.size, fun d hd => s.old d (by omega) (by have := x.size; omega)⟩⟩
end Go.Proofs.YtpiegpegjbmlkaaGreatDoor
namespace Go.Proofs.YtpiegpegjbmlkaaGreatDoor
open Go Go.Kd
set_option maxRecDepth 100000

theorem c_zzFits1 (t : Ty) (a1 : Option Addr) (c1 : Nat) (w : World) (hwt : wt t ≤ 16777216) : Calls Tryz.prog 15 #[.agg (tyc t a1 c1).toArray] w (Ret fun r w' => r = .bool true ∧ Ext w w') := by
  have hl : t.elems.length ≤ 16777216 := by
    have h1 : ∀ l : List Ty, l.length ≤ wts l := fun l => by
      induction l with
      | nil => exact Nat.zero_le _
      | cons e r ih =>
        have := wt_pos e
        simp only [List.length_cons, wts]
        omega
    have := h1 t.elems
    have := wt_eq t
    omega
  have hn : t.name.size ≤ 16777216 := by have := wt_eq t; omega
  have hg : t.tag.size ≤ 16777216 := by have := wt_eq t; omega
  refine W.enter (args := [.agg (tyc t a1 c1).toArray]) Tryz.func15 rfl Tryz.ntmps15 rfl rfl ?_
  refine zst ?_
  refine WU.stp rfl rfl rfl (by first | exact stp_box rfl rfl | exact stp_box1 rfl rfl) ?_
  rintro _ w1 ⟨b1, rfl, n1⟩
  have ib1 : Has w1 b1 (.cells (tyc t a1 c1).toArray 26) := n1.has
  refine zst ?_
  rw [show decide ((2147483647 : Int) < (t.elems.length : Int)) = false by simp; omega]
  refine zst ?_
  rw [show decide ((2147483647 : Int) < (t.name.size : Int)) = false by simp; omega]
  refine zst ?_
  rw [show decide ((2147483647 : Int) < (t.tag.size : Int)) = false by simp; omega]
  refine zst ?_
  exact fin1 (.inl rfl) rfl rfl ⟨rfl, n1.ext⟩
theorem tys_one {w : World} {t : Ty} {a : Option Addr} {c r : Nat} (hr : Has w r (.cells (tyc t a c).toArray 26)) {p : Nat → Prop} (hp : p r) (ht : TysV w p a c t.elems) : TysV w p (some ⟨r, 0, none⟩) 1 [t] :=
  ⟨Nat.le_refl _, fun _ => tyc t a c, fun i hi => ⟨r, 0, rfl, hp, by
    obtain rfl : i = 0 := by simpa using hi
    exact Cells.has hr⟩, fun i e he => by
    match i with
    | 0 => simp at he; subst he; exact .of_tys ht
    | i + 1 => simp at he⟩

end Go.Proofs.YtpiegpegjbmlkaaGreatDoor
namespace Go.Kd
variable {P : Program} {e : Env} {w : World} {d : Option Tmp} {ty t t2 : TypeId} {pos : String} {aft : Array Edge} {g : Option (Nat × Bool)} {x y z : Operand}
end Go.Kd
namespace Go.Proofs.YtpiegpegjbmlkaaGreatDoor
open Go Go.Kd
set_option maxRecDepth 100000

end Go.Proofs.YtpiegpegjbmlkaaGreatDoor
namespace Go.Proofs.YtpiegpegjbmlkaaGreatDoor
open Go Go.Kd
set_option maxRecDepth 100000

mutual
def dX : X → Nat
  | .leaf _ _ => 0
  | .node _ _ _ _ _ es => dXs es + 1
def dXs : List X → Nat
  | [] => 0
  | x :: r => max (dX x) (dXs r)
end
theorem Exp.congr {D : List De} {t t' : Ty} {x : X} (hu : unaliasT D t = unaliasT D t') (h : Exp D t x) : Exp D t' x := by
  cases h with
  | leaf _ hk => rw [hu] at hk ⊢; exact .leaf t' hk
  | plain _ es h2 h8 hl he => rw [hu] at h2 h8 hl he ⊢; exact .plain t' es h2 h8 hl he
  | iface _ ms es h9 hi hl he => rw [hu] at h9 hi; exact .iface t' ms es h9 hi hl he

end Go.Proofs.YtpiegpegjbmlkaaGreatDoor
namespace Go.Proofs.YtpiegpegjbmlkaaGreatDoor
open Go Go.Kd
set_option maxRecDepth 100000

/-- what is there when types are compared -/
structure IC (K : Cfg) (s : Gs) (w : World) : Prop where
  ok : OkD K.D
  vd : ValidD K.D
  dc : DclI K s w K.D.length
  er : ErrI K s w
  ii : II K s w []
  prp : Prp w
  pkg : PkgOK s w
theorem PkgOK.ext {s : Gs} {w w' : World} (x : Ext w w') (h : PkgOK s w) : PkgOK s w' := fun n hn => by
  obtain ⟨c, y, h1, h2⟩ := h n hn
  exact ⟨c, y, h1, h2.ext' x⟩
theorem IC.ext {K : Cfg} {s : Gs} {w w' : World} (x : Ext w w') (h : IC K s w) : IC K s w' := ⟨h.ok, h.vd, h.dc.sta (l := 0) (.of_ext x) (by omega), h.er.sta (l := 0) (.of_ext x) (by omega), fun c u hc => by
    obtain ⟨r1, r2⟩ := h.ii c u hc
    refine ⟨r1, fun hu => ?_⟩
    obtain ⟨p1, p2, p3⟩ := r2 hu
    exact ⟨p1, p2.ext x, .inl ((p3.resolve_right fun q => (by cases q.1)).sta (l := 0) (.of_ext x) (by omega))⟩, h.prp.ext x, h.pkg.ext x⟩
theorem Blt.ic {K : Cfg} {s : Gs} {w : World} {bb : Nat} (h : Blt K s w bb) : IC K s w := ⟨⟨h.vd.sh, h.wd, by have := len_wtD K.D; have := h.wd; omega⟩, h.vd, h.dc, h.er, h.ii, h.prp, h.bi.pkg⟩
theorem rdy_of {K : Cfg} {t : Ty} (h : Good K.D t) : Rdy K K.D.length t := fun hk => by
  obtain ⟨h0, h1⟩ := h.named hk
  exact ⟨h0, by omega, by omega⟩
/-! ### Legal types -/
theorem legal_same {D : List De} {t u : Ty} (h0 : u.kind = 0) (he : u.elems = t.elems) (h : Legal D t) : Legal D u := .mk u (fun i e hi => h.el i e (by rw [← he]; exact hi)) ⟨fun k => by omega, fun k => by omega, fun k => by omega, fun k => by omega, fun k => by omega, fun k => by omega, fun k => by omega, fun k => by omega⟩
theorem legal_any (D : List De) : Legal D anyT := .mk _ (fun i e he => by simp [anyT, Ty.elems] at he) ⟨fun k => by simp [anyT, Ty.kind] at k, fun k => by simp [anyT, Ty.kind] at k, fun k => by simp [anyT, Ty.kind] at k, fun k => by simp [anyT, Ty.kind] at k, fun k => by simp [anyT, Ty.kind] at k, fun _ i e he => by simp [anyT, Ty.elems] at he, fun _ => ⟨fun i s hs => by simp [names, anyT, Ty.elems] at hs, fun i j s _ hs => by simp [names, anyT, Ty.elems] at hs⟩, fun _ => ⟨[], by
    have hif : isIf anyT := .inl rfl
    exact IM.nil hif (.inr rfl), fun i e he => by simp [anyT, Ty.elems] at he, fun i e he => by simp [anyT, Ty.elems] at he⟩⟩
theorem legal_norm {D : List De} {t : Ty} (h : Legal D t) : Legal D (norm t) := by
  rcases norm_cases t with ⟨_, h2⟩ | ⟨_, h2, h3, _⟩ | ⟨_, _, h3⟩
  · rw [h2]; exact h
  · exact legal_same h2 h3 h
  · rw [h3]; exact legal_any D
theorem legal_errN {D : List De} {t : Ty} (h : Legal D t) : Legal D (errN t) := by
  unfold errN
  split
  · exact legal_errT D
  · exact h
theorem legal_under {D : List De} (hV : ValidD D) {t : Ty} (hg : Good D t) (h : Legal D t) : Legal D (underT D t) := by
  obtain ⟨i, v, hi, hs⟩ := hg.sh
  rcases under_cases hV.sh hi hs with ⟨_, _, h2⟩ | ⟨j, e, _, _, _, h3, _, h6⟩
  · rw [h2]; exact legal_errN (legal_norm h)
  · rw [h6]; exact legal_errN (legal_norm (hV.lg j e h3))
section
variable {K : Cfg} {s : Gs} {w : World} {p : Nat → Prop} {v : Value} {t : Ty}
end
/-- the root of a type that is no alias -/
inductive Root (D : List De) (y : Ty) : X → Prop
  | basic (n : Int) : y.kind = 0 → y.n ≠ 20 → y.n ≠ 21 → n = (if y.n = 18 then 7 else if y.n = 19 then 4 else y.n) → Root D y (.leaf 0 n)
  | error : y.kind = 0 → y.n = 20 → Root D y (.leaf 0 20)
  | named : y.kind = 1 → Root D y (.leaf 1 y.n)
  | plain (es : List X) : 2 ≤ y.kind → y.kind ≤ 8 → es.length = y.elems.length → (∀ (i : Nat) e x, y.elems[i]? = some e → es[i]? = some x → Exp D e x) → Root D y (.node y.kind (nN y) (cN y) (vN y) (anN y) es)
  | iface (ms : List Mt) (es : List X) : isIf y → IM D y ms → es.length = ms.length → (∀ (i : Nat) m x, ms[i]? = some m → es[i]? = some x → Exp D m.fn x) → Root D y (.node 9 0 0 false (anM ms) es)
theorem IM.under {D : List De} {t u : Ty} (h : underT D t = underT D u) {ms : List Mt} (hm : IM D t ms) : IM D u ms := by
  cases hm with
  | no _ hk => exact .no u (by rw [← h]; exact hk)
  | yes _ L h9 hL h1 h2 => rw [h] at h9 hL h1 h2 ⊢; exact .yes u L h9 hL h1 h2
theorem Root.det {D : List De} {y : Ty} {x z : X} (h : Root D y x) (k : Root D y z) : x = z := by
  cases h with
  | basic n h0 h1 h2 h3 =>
    cases k with
    | basic n' _ _ _ k3 => rw [h3, k3]
    | error _ k1 => exact absurd k1 h1
    | named k0 => omega
    | plain es k2 => omega
    | iface ms es k1 =>
      rcases k1 with k | ⟨_, k⟩
      · omega
      · exact absurd k h2
  | error h0 h1 =>
    cases k with
    | basic n' _ k1 => exact absurd h1 k1
    | error => rfl
    | named k0 => omega
    | plain es k2 => omega
    | iface ms es k1 =>
      rcases k1 with k | ⟨_, k⟩
      · omega
      · omega
  | named h0 =>
    cases k with
    | basic n' k0 => omega
    | error k0 => omega
    | named => rfl
    | plain es k2 => omega
    | iface ms es k1 =>
      rcases k1 with k | ⟨k, _⟩ <;> omega
  | plain es h2 h8 hl he =>
    cases k with
    | basic n' k0 => omega
    | error k0 => omega
    | named k0 => omega
    | plain es' _ _ kl ke =>
      have : es = es' := lists_eq es es' (by omega) fun i a b ha hb => by
        have hlt := (List.getElem?_eq_some_iff.1 ha).1
        have hel : y.elems[i]? = some y.elems[i] := List.getElem?_eq_getElem (by omega)
        exact Exp.det (he i _ a hel ha) (ke i _ b hel hb)
      rw [this]
    | iface ms es k1 =>
      rcases k1 with k | ⟨k, _⟩ <;> omega
  | iface ms es hi hm hl he =>
    cases k with
    | basic n' k0 _ k1 =>
      rcases hi with k | ⟨_, k⟩
      · omega
      · exact absurd k k1
    | error k0 k1 =>
      rcases hi with k | ⟨_, k⟩ <;> omega
    | named k0 =>
      rcases hi with k | ⟨k, _⟩ <;> omega
    | plain es' k2 k8 =>
      rcases hi with k | ⟨k, _⟩ <;> omega
    | iface ms' es' _ km kl ke =>
      obtain rfl := IM.det hm km
      have : es = es' := lists_eq es es' (by omega) fun i a b ha hb => by
        have hlt := (List.getElem?_eq_some_iff.1 ha).1
        have hel : ms[i]? = some ms[i] := List.getElem?_eq_getElem (by omega)
        exact Exp.det (he i _ a hel ha) (ke i _ b hel hb)
      rw [this]
end Go.Proofs.YtpiegpegjbmlkaaGreatDoor
namespace Go.Proofs.YtpiegpegjbmlkaaGreatDoor
open Go Go.Kd
set_option maxRecDepth 100000

theorem c_align (x a : Int) (hx : 0 ≤ x ∧ x ≤ 9223372036854775807) (ha : okA a) (w : World) : Calls Tryz.prog 90 #[.int .i64 x, .int .i64 a] w (Ret fun r w' => (∃ z, r = .int .i64 z ∧ alikeS z (upI x a) ∧ z ≤ 9223372036854775807 ∧ -9223372036854775808 ≤ z) ∧ w = w') := by
  have b2 : 1 ≤ a ∧ a ≤ 8 := by unfold okA at ha; omega
  refine W.enter (args := [.int .i64 x, .int .i64 a]) Tryz.func90 rfl Tryz.ntmps90 rfl rfl ?_
  refine zst ?_
  rw [decide_eq_true (show x ≥ 0 by omega)]
  refine zst ?_
  rw [decide_eq_true (show (1 : Int) ≤ a by omega)]
  refine zst ?_
  rw [decide_eq_true (show a ≤ 8 by omega)]
  refine zst ?_
  refine WU.yld rfl rfl rfl (yld_and rfl rfl) ?_
  rw [and_pow ha]
  refine zst ?_
  refine WU.stp rfl rfl rfl (stp_call rfl (c_assert w)) ?_
  rintro _ _ rfl
  refine zst ?_
  refine WU.yld rfl rfl rfl (yld_add rfl rfl) ?_
  refine WU.yld rfl rfl rfl (yld_sub rfl rfl) ?_
  refine zst ?_
  refine WU.yld rfl rfl rfl (yld_andNot rfl rfl) ?_
  refine zst ?_
  have h : IntKind.i64.wrap (IntKind.i64.wrap (x + a) - 1) = wr (x + a - 1) := by
    show wr (wr (x + a) - 1) = _
    refine wr_of_mod ?_
    have := wr_mod (x + a)
    omega
  rw [h]
  have hr := wr_range ((BitVec.ofInt IntKind.i64.bits (wr (x + a - 1)) &&& ~~~BitVec.ofInt IntKind.i64.bits (a - 1)).toNat : Int)
  exact fin1 (.inl rfl) rfl rfl ⟨⟨_, rfl, align_alike hx ha, hr.2, hr.1⟩, rfl⟩
theorem c_isTyped {K : Cfg} {s : Gs} {w : World} {p : Nat → Prop} {v : Value} {t : Ty} (ic : IC K s w) (hv : RT K s w p v t) (hg : Good K.D t) : Calls Tryz.prog 89 #[v] w (Ret fun r w' => r = .bool true ∧ w = w') := by
  have no : ∀ T b, v = .iface T (pt b) → Nat.beq T 109 = false → Calls Tryz.prog 89 #[v] w (Ret fun r w' => r = .bool true ∧ w = w') := fun T b hvb hT => by
    subst hvb
    refine W.enter (args := [.iface T (pt b)]) Tryz.func89 rfl Tryz.ntmps89 rfl rfl ?_
    refine zst ?_
    exact fin1 (.inl rfl) rfl rfl ⟨rfl, rfl⟩
  by_cases hb : t.kind = 0 ∧ t.n < 20
  · cases hv with
    | basic _ b i nb h0 h1 h2 hp h3 h4 =>
      have key : IntKind.i64.wrap (BitVec.ofInt IntKind.i64.bits (infK (bk t.n)) &&& BitVec.ofInt IntKind.i64.bits 64).toNat = 0 := by
        generalize t.n = n at h1 h2
        have hn : n = 0 ∨ n = 1 ∨ n = 2 ∨ n = 3 ∨ n = 4 ∨ n = 5 ∨ n = 6 ∨ n = 7 ∨ n = 8 ∨ n = 9 ∨ n = 10 ∨ n = 11 ∨ n = 12 ∨ n = 13 ∨ n = 14 ∨ n = 15 ∨ n = 16 ∨ n = 17 ∨ n = 18 ∨ n = 19 := by omega
        rcases hn with rfl | rfl | rfl | rfl | rfl | rfl | rfl | rfl | rfl | rfl | rfl | rfl | rfl | rfl | rfl | rfl | rfl | rfl | rfl | rfl <;> decide
      refine W.enter (args := [.iface 109 (pt b)]) Tryz.func89 rfl Tryz.ntmps89 rfl rfl ?_
      refine zst ?_
      refine WU.yld rfl rfl rfl (yld_and rfl rfl) ?_
      rw [key]
      refine zst ?_
      exact fin1 (.inl rfl) rfl rfl ⟨rfl, rfl⟩
    | error _ h0 h1 => omega
    | any _ _ h0 h1 => omega
    | named _ _ h0 => omega
    | ptr _ _ _ _ h0 => omega
    | slice _ _ _ _ h0 => omega
    | array _ _ _ _ h0 => omega
    | map _ _ _ _ _ _ h0 => omega
    | chan _ _ _ _ h0 => omega
    | struct _ _ _ _ _ _ _ _ _ h0 => omega
    | func _ _ _ _ _ _ h0 => omega
    | iface _ _ _ _ _ _ _ _ _ _ h0 => omega
  · by_cases ha : isAl K.D t = true
    · have hk := isAl_kind ha
      obtain ⟨h0, h1, h2⟩ := rdy_of hg hk
      have hel := List.getElem?_eq_getElem h1
      obtain ⟨b, ob, T, c, v0, y, rfl, _⟩ := ic.dc.al_ hel h2 (by rw [← isAl_n hk hel]; exact ha) (hv.nam hk)
      exact no tAL b rfl rfl
    · obtain ⟨T, b, rfl, hT⟩ := hv.noAl ic.dc ic.er (rdy_of hg) (by simpa using ha)
      rcases hT with hT | rfl
      · by_cases hk : t.kind = 1
        · obtain ⟨h0, h1, h2⟩ := rdy_of hg hk
          have hel := List.getElem?_eq_getElem h1
          obtain ⟨b', ob, T', ub, ms, y, hvb, _⟩ := ic.dc.def_ hel h2 (by rw [← isAl_n hk hel]; simpa using ha) (hv.nam hk)
          cases hvb
          exact no tNP _ rfl rfl
        · by_cases hye : t.kind = 0 ∧ t.n = 20
          · obtain ⟨b2, ob2, u, ms, nm, q1, _⟩ := ic.er
            have := (hv.err hye.1 hye.2).trans q1
            cases this
            exact no tNP _ rfl rfl
          · obtain ⟨b2, hvb, _⟩ := hv.lit ⟨hk, hye⟩
            cases hvb
            refine no _ _ rfl ?_
            obtain ⟨i, u, hi, hs⟩ := hg.sh
            have h0 := hs.shape.lo
            have h9 := hs.shape.hi
            have hn : t.kind = 0 → t.n = 21 := fun h => by
              have := hs.shape.n1 (by rw [h]; simp [limitN])
              rw [h] at this
              simp [limitN] at this
              omega
            unfold dynT
            by_cases hk0 : t.kind = 0
            · rw [if_pos hk0, if_pos (hn hk0)]; rfl
            · rw [if_neg hk0]
              have hkk : t.kind = 2 ∨ t.kind = 3 ∨ t.kind = 4 ∨ t.kind = 5 ∨ t.kind = 6 ∨ t.kind = 7 ∨ t.kind = 8 ∨ t.kind = 9 := by omega
              rcases hkk with h | h | h | h | h | h | h | h <;> (rw [h]; rfl)
      · exact no tNP b rfl rfl
/-- what underlies a type, as a value -/
theorem und_val {K : Cfg} {s : Gs} {w : World} {e : Env} {d : Option Tmp} {ty : TypeId} {pos : String} {aft : Array Edge} {g : Option (Nat × Bool)} {recv : Operand} {tys : Array TypeId} {v : Value} {t : Ty} {w0 : World} (ic : IC K s w0) (hsl : ∀ d, s.sl d → d < w0.heap.size) (x : Ext w0 w) (hg : Good K.D t) (hv : RT K s w0 s.sl v t) (hr : ev e recv = some v) :
    Stp Tryz.prog e ⟨d, .call ⟨.invoke recv "Underlying", #[], tys⟩, ty, pos, aft, g⟩ w (fun r w' => w = w' ∧ ∃ y T b, r = .iface T (pt b) ∧ RT K s w0 s.sl r y ∧ isLit y ∧ underT K.D t = norm y) :=
  Stp.imp (stp_und ic.ok.sh (ic.ext x).dc (ic.ext x).er (hv.ext x) (rdy_of hg) hr) fun r w' ⟨h1, y, hy1, hyl, hyu, T, b, hT⟩ => by
    refine ⟨h1, y, T, b, hT, ?_, hyl, hyu⟩
    exact (hy1.mono fun d _ hd => hd.elim id id).same fun d hd => (x.below.block d (hsl d hd)).symm
theorem and16 {n : Int} (h0 : 0 ≤ n) (h1 : n < 20) : (IntKind.i64.wrap (BitVec.ofInt IntKind.i64.bits (infK (bk n)) &&& BitVec.ofInt IntKind.i64.bits 16).toNat != 0) = (n == 14 || n == 15) := by
  have hn : n = 0 ∨ n = 1 ∨ n = 2 ∨ n = 3 ∨ n = 4 ∨ n = 5 ∨ n = 6 ∨ n = 7 ∨ n = 8 ∨ n = 9 ∨ n = 10 ∨ n = 11 ∨ n = 12 ∨ n = 13 ∨ n = 14 ∨ n = 15 ∨ n = 16 ∨ n = 17 ∨ n = 18 ∨ n = 19 := by omega
  rcases hn with rfl | rfl | rfl | rfl | rfl | rfl | rfl | rfl | rfl | rfl | rfl | rfl | rfl | rfl | rfl | rfl | rfl | rfl | rfl | rfl <;> decide
theorem and32 {n : Int} (h0 : 0 ≤ n) (h1 : n < 20) : (IntKind.i64.wrap (BitVec.ofInt IntKind.i64.bits (infK (bk n)) &&& BitVec.ofInt IntKind.i64.bits 32).toNat != 0) = (n == 16) := by
  have hn : n = 0 ∨ n = 1 ∨ n = 2 ∨ n = 3 ∨ n = 4 ∨ n = 5 ∨ n = 6 ∨ n = 7 ∨ n = 8 ∨ n = 9 ∨ n = 10 ∨ n = 11 ∨ n = 12 ∨ n = 13 ∨ n = 14 ∨ n = 15 ∨ n = 16 ∨ n = 17 ∨ n = 18 ∨ n = 19 := by omega
  rcases hn with rfl | rfl | rfl | rfl | rfl | rfl | rfl | rfl | rfl | rfl | rfl | rfl | rfl | rfl | rfl | rfl | rfl | rfl | rfl | rfl <;> decide
/-- a literal's dynamic type is Basic's exactly if the type is a basic one -/
theorem lit_basic {K : Cfg} {s : Gs} {w : World} {p : Nat → Prop} {T b : Nat} {y : Ty} (h : RT K s w p (.iface T (pt b)) y) (hl : isLit y) : (T = 109 ∧ y.kind = 0 ∧ 0 ≤ y.n ∧ y.n < 20 ∧ ∃ nb, Has w b (.cells #[.int .i64 (bk y.n), .int .i64 (infK (bk y.n)), .string nb] 139)) ∨ (Nat.beq T 109 = false ∧ ¬ (y.kind = 0 ∧ y.n ≠ 21)) := by
  generalize hu : Value.iface T (pt b) = u at h
  cases h with
  | basic _ b i nb h0 h1 h2 hp h3 h4 => cases hu; exact .inl ⟨rfl, h0, h1, h2, nb, h3⟩
  | error _ h0 h1 => exact absurd ⟨h0, h1⟩ hl.2
  | any _ _ h0 h1 => cases hu; exact .inr ⟨rfl, fun h => h.2 h1⟩
  | named _ _ h0 => exact absurd h0 hl.1
  | ptr _ _ _ _ h0 => cases hu; exact .inr ⟨rfl, fun h => by omega⟩
  | slice _ _ _ _ h0 => cases hu; exact .inr ⟨rfl, fun h => by omega⟩
  | array _ _ _ _ h0 => cases hu; exact .inr ⟨rfl, fun h => by omega⟩
  | map _ _ _ _ _ _ h0 => cases hu; exact .inr ⟨rfl, fun h => by omega⟩
  | chan _ _ _ _ h0 => cases hu; exact .inr ⟨rfl, fun h => by omega⟩
  | struct _ _ _ _ _ _ _ _ _ h0 => cases hu; exact .inr ⟨rfl, fun h => by omega⟩
  | func _ _ _ _ _ _ h0 => cases hu; exact .inr ⟨rfl, fun h => by omega⟩
  | iface _ _ _ _ _ _ _ _ _ _ h0 => cases hu; exact .inr ⟨rfl, fun h => by omega⟩
/-- basic types, byte and rune among them -/
theorem norm_bas {y : Ty} (h0 : y.kind = 0) (h1 : 0 ≤ y.n) (h2 : y.n < 20) : (norm y).kind = 0 ∧ (norm y).n = bk y.n - 1 := by
  rcases norm_cases y with ⟨h, _⟩ | ⟨_, h, _, h3, _⟩ | ⟨_, h, _⟩
  · exact absurd h0 h
  · refine ⟨h, ?_⟩
    rw [h3]
    unfold bk
    split
    · rfl
    split <;> omega
  · omega
theorem norm_nbas {y : Ty} (_ : isLit y) (h : ¬ (y.kind = 0 ∧ y.n ≠ 21)) : (norm y).kind ≠ 0 := by
  by_cases h0 : y.kind = 0
  · have h1 : y.n = 21 := Classical.byContradiction fun h1 => h ⟨h0, h1⟩
    rcases norm_cases y with ⟨h, _⟩ | ⟨_, _, _, _, h3⟩ | ⟨_, _, h⟩
    · exact absurd h0 h
    · exact absurd h1 h3
    · rw [h]; decide
  · rw [norm_named h0]; exact h0
theorem c_isBasic16 {K : Cfg} {s : Gs} {w w0 : World} {v : Value} {t : Ty} (ic : IC K s w0) (hsl : ∀ d, s.sl d → d < w0.heap.size) (x : Ext w0 w) (hg : Good K.D t) (hv : RT K s w0 s.sl v t) :
    Calls Tryz.prog 103 #[v, .int .i64 16] w (Ret fun r w' => r = .bool ((underT K.D t).kind == 0 && ((underT K.D t).n == 14 || (underT K.D t).n == 15)) ∧ w = w') := by
  refine W.enter (args := [v, .int .i64 16]) Tryz.func103 rfl Tryz.ntmps103 rfl rfl ?_
  refine zst ?_
  refine WU.stp rfl rfl rfl (und_val ic hsl x hg hv rfl) ?_
  rintro _ _ ⟨rfl, y, T, b, rfl, hy, hyl, hyu⟩
  rcases lit_basic hy hyl with ⟨rfl, h0, h1, h2, nb, h3⟩ | ⟨hT, hk⟩
  · have h3' := h3.ext' x
    refine zst ?_
    refine WU.yld rfl rfl rfl (yld_and rfl rfl) ?_
    refine zst ?_
    rw [and16 h1 h2]
    refine zst ?_
    obtain ⟨n1, n2⟩ := norm_bas h0 h1 h2
    refine fin1 (.inl rfl) rfl rfl ⟨?_, rfl⟩
    rw [hyu, n1, n2]
    congr 1
    unfold bk
    have hn : y.n = 18 ∨ y.n = 19 ∨ (y.n ≠ 18 ∧ y.n ≠ 19) := by omega
    rcases hn with h | h | ⟨h, h'⟩
    · rw [h]; decide
    · rw [h]; decide
    · rw [if_neg h, if_neg h', Int.add_sub_cancel]; simp
  · refine zst ?_
    refine fin1 (.inl rfl) rfl rfl ⟨?_, rfl⟩
    have := norm_nbas hyl hk
    rw [hyu]
    simp [this]
theorem c_isComplexG {K : Cfg} {s : Gs} {w w0 : World} {v : Value} {t : Ty} (ic : IC K s w0) (hsl : ∀ d, s.sl d → d < w0.heap.size) (x : Ext w0 w) (hg : Good K.D t) (hv : RT K s w0 s.sl v t) :
    Calls Tryz.prog 73 #[v] w (Ret fun r w' => r = .bool ((underT K.D t).kind == 0 && ((underT K.D t).n == 14 || (underT K.D t).n == 15)) ∧ w = w') := by
  refine W.enter (args := [v]) Tryz.func73 rfl Tryz.ntmps73 rfl rfl ?_
  refine zst ?_
  refine WU.stp rfl rfl rfl (stp_call rfl (c_isBasic16 ic hsl x hg hv)) ?_
  rintro _ _ ⟨rfl, rfl⟩
  refine zst ?_
  exact fin1 (.inl rfl) rfl rfl ⟨rfl, rfl⟩
end Go.Proofs.YtpiegpegjbmlkaaGreatDoor
namespace Go.Proofs.YtpiegpegjbmlkaaGreatDoor
open Go Go.Kd
set_option maxRecDepth 100000

section
variable {D : List De} {a : Option Addr} {cp : Nat} {wd mx : Int}
abbrev szb (w : World) (b : Nat) (wd mx : Int) : Prop := Has w b (.cells (szl wd mx).toArray 30)
abbrev tyb (w : World) (b : Nat) (t : Ty) (a1 : Option Addr) (c1 : Nat) : Prop := Has w b (.cells (tyc t a1 c1).toArray 26)
def AlC (D : List De) (a : Option Addr) (cp : Nat) (wd mx : Int) (t : Ty) (al : Int) : Prop := ∀ (a1 : Option Addr) (c1 : Nat) (w : World) (p : Nat → Prop), (∀ b, p b → b < w.heap.size) → DsV w p (.slice a D.length cp) D → TysV w p a1 c1 t.elems →
  Calls Tryz.prog 24 #[.agg (szl wd mx).toArray, .slice a D.length cp, .agg (tyc t a1 c1).toArray] w (Ret fun v w' => v = .int .i64 al ∧ Ext w w')
/-- behind the underlying type -/
def AlT (D : List De) (a : Option Addr) (cp : Nat) (wd mx : Int) (u : Ty) (al : Int) : Prop := ∀ (a2 : Option Addr) (c2 : Nat) (w0 w : World) (p : Nat → Prop) (b1 b2 : Nat), (∀ b, p b → b < w.heap.size) → DsV w p (.slice a D.length cp) D → TysV w p a2 c2 u.elems → szb w b1 wd mx → tyb w b2 u a2 c2 → Ext w0 w →
  ∃ c, dropA 2 (bodyA Tryz.f24) = some c ∧ W Tryz.prog 63 c (fin Tryz.prog Tryz.f24 (Ret fun v w' => v = .int .i64 al ∧ Ext w0 w')) [] [(1, .slice a D.length cp), (3, pt b1), (5, pt b2)] w
theorem AlT.enter (hD : OkD D) {t : Ty} (hG : Good D t) {al : Int} (h : AlT D a cp wd mx (underT D t) al) : AlC D a cp wd mx t al := by
  intro a1 c1 w p hp hd ht
  refine W.enter (args := [.agg (szl wd mx).toArray, .slice a D.length cp, .agg (tyc t a1 c1).toArray]) Tryz.func24 rfl Tryz.ntmps24 rfl rfl ?_
  refine zst ?_
  refine WU.stp rfl rfl rfl (by first | exact stp_box rfl rfl | exact stp_box1 rfl rfl) ?_
  rintro _ w1 ⟨b1, rfl, n1⟩
  refine WU.stp rfl rfl rfl (by first | exact stp_box rfl rfl | exact stp_box1 rfl rfl) ?_
  rintro _ w2 ⟨b2, rfl, n2⟩
  refine zst ?_
  have e1 := n1.num
  have s1 := n1.size
  have e2 := n2.num
  have s2 := n2.size
  have x12 := n1.ext.trans n2.ext
  refine WU.stp rfl rfl rfl (stp_call rfl (c_Underlying hD hG a cp a1 c1 w2 (fun b hb => by have := hp b hb; omega) (hd.ext x12) (ht.ext x12))) ?_
  rintro _ w3 ⟨a2, c2, rfl, ht3, x3⟩
  have i1 : szb w3 b1 wd mx := (n1.has.ext' n2.ext).ext' x3
  have h2 : Has w3 b2 _ := n2.has.ext' x3
  have s3 := x3.size
  refine WU.stp0 rfl rfl (stp_store_whole rfl rfl rfl rfl) ?_
  rintro _ w4 u4
  have s4 := u4.size
  have x04 : Ext w w4 := u4.ext (x12.trans x3) (by omega)
  have ht4 : TysV w4 (btw w2 w3 p) a2 c2 (underT D t).elems := ht3.upd u4 (fun h => by
    rcases h with h | h
    · have := hp _ h; omega
    · omega)
  have hpp : ∀ b, btw w2 w3 p b → b < w4.heap.size := fun b hb => by
    rcases hb with hb | hb
    · have := hp b hb; omega
    · omega
  have hd4 : DsV w4 (btw w2 w3 p) (.slice a D.length cp) D := (hd.ext x04).mono fun b hb => .inl hb
  have i4 : szb w4 b1 wd mx := u4.keep i1 (by omega)
  have j4 : tyb w4 b2 (underT D t) a2 c2 := u4.has
  (repeat ((fail_if_success guard_target =~ gW (.seq (.region 2 _ _) _)); (fail_if_success guard_target =~ gW (.seq (.seq (.region 2 _ _) _) _)); refine zs1 ?_))
  exact W.useA (h a2 c2 w w4 _ b1 b2 hpp hd4 ht4 i4 j4 x04) rfl ⟨rfl, rfl, rfl, trivial⟩
theorem AlT.multi {u : Ty} (hk : u.kind = 3 ∨ u.kind = 9) : AlT D a cp wd mx u wd := by
  intro a2 c2 w0 w p b1 b2 hp hd ht i1 i2 x0
  refine ⟨_, rfl, ?_⟩
  refine zst ?_
  rw [show (u.kind == 4) = false by simp; omega]
  refine zst ?_
  rw [show (u.kind == 7) = false by simp; omega]
  refine zst ?_
  cases h3 : (u.kind == 3)
  · refine zst ?_
    rw [show (u.kind == 9) = true by simp at h3 ⊢; omega]
    refine zst ?_
    exact fin1 (.inl rfl) rfl rfl ⟨rfl, x0⟩
  · refine zst ?_
    exact fin1 (.inl rfl) rfl rfl ⟨rfl, x0⟩
theorem AlT.word {u : Ty} (hk : u.kind = 1 ∨ u.kind = 2 ∨ u.kind = 5 ∨ u.kind = 6 ∨ u.kind = 8) : AlT D a cp wd mx u (min wd mx) := by
  intro a2 c2 w0 w p b1 b2 hp hd ht i1 i2 x0
  refine ⟨_, rfl, ?_⟩
  refine zst ?_
  rw [show (u.kind == 4) = false by simp; omega]
  refine zst ?_
  rw [show (u.kind == 7) = false by simp; omega]
  refine zst ?_
  rw [show (u.kind == 3) = false by simp; omega]
  refine zst ?_
  rw [show (u.kind == 9) = false by simp; omega]
  refine zst ?_
  rw [show (u.kind == 0) = false by simp; omega]
  refine zst ?_
  refine WU.yld rfl rfl rfl (yld_min rfl rfl) ?_
  refine zst ?_
  exact fin1 (.inl rfl) rfl rfl ⟨rfl, x0⟩
theorem AlT.basic {u : Ty} (hw : wd = 4 ∨ wd = 8) (hk : u.kind = 0) (h0 : 0 ≤ u.n) (h1 : u.n ≤ 17) : AlT D a cp wd mx u (aBasic wd mx u.n) := by
  intro a2 c2 w0 w p b1 b2 hp hd ht i1 i2 x0
  have hb := sBasic_ok hw u.n
  refine ⟨_, rfl, ?_⟩
  refine zst ?_
  rw [show (u.kind == 4) = false by simp; omega]
  refine zst ?_
  rw [show (u.kind == 7) = false by simp; omega]
  refine zst ?_
  rw [show (u.kind == 3) = false by simp; omega]
  refine zst ?_
  rw [show (u.kind == 9) = false by simp; omega]
  refine zst ?_
  rw [show (u.kind == 0) = true by simp; omega]
  refine zst ?_
  refine WU.stp rfl rfl rfl (stp_call rfl (c_basicSize wd mx u.n hw h0 h1 w)) ?_
  rintro _ w1 ⟨rfl, x1⟩
  refine zst ?_
  unfold aBasic
  cases h16 : (u.n == 16)
  · rw [if_neg (by simpa using h16)]
    refine zst ?_
    refine WU.stp rfl rfl rfl (stp_call rfl (c_isComplexS u a2 c2 w1)) ?_
    rintro _ w2 ⟨rfl, x2⟩
    rw [show (u.kind == 0) = true by simp; omega]
    by_cases hc : u.n = 14 ∨ u.n = 15
    · rw [show (true && (u.n == 14 || u.n == 15)) = true by simpa using hc, if_pos hc]
      refine zst ?_
      refine WU.yld rfl rfl rfl (yld_quo_pos rfl rfl (by omega) (by omega) (by omega)) ?_
      refine zst ?_
      refine WU.yld rfl rfl rfl (yld_min rfl rfl) ?_
      refine zst ?_
      exact fin1 (.inl rfl) rfl rfl ⟨rfl, x0.trans (x1.trans x2)⟩
    · rw [show (true && (u.n == 14 || u.n == 15)) = false by simpa using hc, if_neg hc]
      refine zst ?_
      refine WU.yld rfl rfl rfl (yld_min rfl rfl) ?_
      refine zst ?_
      exact fin1 (.inl rfl) rfl rfl ⟨rfl, x0.trans (x1.trans x2)⟩
  · rw [if_pos (by simpa using h16)]
    refine zst ?_
    exact fin1 (.inl rfl) rfl rfl ⟨rfl, x0.trans x1⟩
theorem maxA_snoc : ∀ (l : List (Int × Int)) (m : Int) (p : Int × Int), maxA m (l ++ [p]) = max (maxA m l) p.2
  | [], _, _ => rfl
  | (s, b) :: r, m, p => by simp only [List.cons_append, maxA, maxA_snoc r]
set_option maxHeartbeats 2000000 in
theorem AlT.all {u : Ty} (hk : u.kind = 4 ∨ u.kind = 7) (hlen : u.elems.length ≤ 1073741824) {l : List (Int × Int)} (hl : l.length = u.elems.length) (ih : ∀ (i : Nat) e q, u.elems[i]? = some e → l[i]? = some q → AlC D a cp wd mx e q.2) : AlT D a cp wd mx u (maxA 1 l) := by
  intro a2 c2 w0 w p b1 b2 hp hd ht i1 i2 x0
  refine ⟨_, rfl, ?_⟩
  (repeat ((fail_if_success guard_target =~ gW (.seq (.region 3 _ _) _)); (fail_if_success guard_target =~ gW (.seq (.seq (.region 3 _ _) _) _)); refine zs1 ?_))
  refine W.cut [(16, .bool (u.kind == 4 || u.kind == 7)), (1, .slice a D.length cp), (3, pt b1), (5, pt b2)] ?_ ?_
  · refine zst ?_
    cases k4 : (u.kind == 4) <;> (
      refine zst ?_
      exact ⟨rfl, rfl, rfl, rfl, rfl, rfl, trivial⟩)
  rw [show (u.kind == 4 || u.kind == 7) = true by rcases hk with hk | hk <;> simp [hk]]
  refine zst ?_
  refine W.loop (σ := Nat) (fun k => [(22, .int .i64 k), (21, .int .i64 u.elems.length), (20, .slice a2 u.elems.length c2), (7, .int .i64 (maxA 1 (l.take k))), (1, .slice a D.length cp), (3, pt b1), (5, pt b2)])
    (fun k D' wk => D' = [] ∧ k ≤ u.elems.length ∧ Ext w wk) (fun k => u.elems.length - k) 0 ⟨rfl, Nat.zero_le _, Ext.rfl' _⟩ (by exact sub_of ⟨rfl, rfl, rfl, rfl, rfl, rfl, rfl, trivial⟩) ?_
  rintro k D' wr ⟨rfl, hkl, xr⟩
  have hsz := xr.size
  have j1 : szb wr b1 wd mx := i1.ext' xr
  refine zst ?_
  by_cases hlt : k < u.elems.length
  · rw [show decide ((k : Int) < (u.elems.length : Int)) = true by simpa using hlt]
    have he := List.getElem?_eq_getElem hlt
    have hb := List.getElem?_eq_getElem (show k < l.length by omega)
    generalize u.elems[k] = e at he
    generalize l[k] = q at hb
    obtain ⟨b, o, a3, c3, rfl, hpb, hc, hte⟩ := ht.next he
    have hc' : Cells wr b (o + k * 8) (tyc e a3 c3) := hc.ext xr
    refine zst ?_
    refine WU.yld rfl rfl rfl (yld_load_cells rfl hc') ?_
    refine WU.stp rfl rfl rfl stp_alloc ?_
    rintro _ w4 ⟨b3, rfl, n3⟩
    refine WU.stp0 rfl rfl (stp_store_whole rfl rfl rfl rfl) ?_
    rintro _ w5 u4
    have x4 : Ext wr w5 := (u4.ofNew n3).ext
    have s5 := x4.size
    have i4 : tyb w5 b3 e a3 c3 := u4.has
    have j5 : szb w5 b1 wd mx := j1.ext' x4
    clear u4 n3
    have xx := xr.trans x4
    refine zst ?_
    refine WU.stp rfl rfl rfl (stp_call rfl (ih k e q he hb a3 c3 w5 p (fun b hb => by have := hp b hb; omega) (hd.ext xx) (hte.ext xx))) ?_
    rintro _ w6 ⟨rfl, x6⟩
    refine WU.yld rfl rfl rfl (yld_max rfl rfl) ?_
    refine zst ?_
    exact ⟨k + 1, by omega, ⟨rfl, by omega, xx.trans x6⟩, sub_of ⟨rfl, rfl, rfl, by rw [show l.take (k + 1) = l.take k ++ [q] by rw [List.take_add_one, hb]; rfl, maxA_snoc]; rfl, rfl, rfl, rfl, trivial⟩⟩
  · rw [show decide ((k : Int) < (u.elems.length : Int)) = false by simpa using hlt]
    refine zst ?_
    exact fin1 (.inl rfl) rfl rfl ⟨by rw [List.take_of_length_le (by omega)], x0.trans xr⟩
end
end Go.Proofs.YtpiegpegjbmlkaaGreatDoor
namespace Go.Proofs.YtpiegpegjbmlkaaGreatDoor
open Go Go.Kd
set_option maxRecDepth 100000

/-- a list of numbers in memory -/
def NumV (w : World) (a : Option Addr) (l : List Int) : Prop := ∀ (i : Nat) x, l[i]? = some x → ∃ b o, a = some ⟨b, o, none⟩ ∧ w.cell? ⟨b, o + i * 1, none⟩ = some (.int .i64 x)
abbrev numL (l : List Int) : List (List Value) := l.map fun x => [.int .i64 x]
theorem own_nums {w : World} {base el : Nat} {v : Value} {l : List Int} (h : Own w base el 1 v (numL l)) : ∃ a c, v = .slice a l.length c ∧ l.length ≤ c ∧ NumV w a l := by
  obtain ⟨a, c, h1, h2, h3⟩ := h.shape
  simp only [List.length_map] at h1 h2 h3
  refine ⟨a, c, h1, h2, fun i x hi => ?_⟩
  obtain ⟨b, o, k1, _, k2⟩ := h3 i (List.getElem?_eq_some_iff.1 hi).1
  exact ⟨b, o, k1, k2 0 (.int .i64 x) (by simp [List.getD, hi])⟩
theorem NumV.ext {w w' : World} (x : Ext w w') {a : Option Addr} {l : List Int} (h : NumV w a l) : NumV w' a l := fun i y hi => by
  obtain ⟨b, o, h1, h2⟩ := h i y hi
  exact ⟨b, o, h1, x.cell h2⟩
section
variable {D : List De} {a : Option Addr} {cp : Nat} {wd mx : Int}
def SzC (D : List De) (a : Option Addr) (cp : Nat) (wd mx : Int) (t : Ty) (s : Int) : Prop := ∀ (a1 : Option Addr) (c1 : Nat) (w : World) (p : Nat → Prop), (∀ b, p b → b < w.heap.size) → DsV w p (.slice a D.length cp) D → TysV w p a1 c1 t.elems →
  Calls Tryz.prog 25 #[.agg (szl wd mx).toArray, .slice a D.length cp, .agg (tyc t a1 c1).toArray] w (Ret fun v w' => v = .int .i64 s ∧ Ext w w')
def OfC (D : List De) (a : Option Addr) (cp : Nat) (wd mx : Int) (t : Ty) (l : List Int) : Prop := ∀ (a1 : Option Addr) (c1 : Nat) (w : World) (p : Nat → Prop), (∀ b, p b → b < w.heap.size) → DsV w p (.slice a D.length cp) D → TysV w p a1 c1 t.elems →
  Calls Tryz.prog 34 #[.agg (szl wd mx).toArray, .slice a D.length cp, .agg (tyc t a1 c1).toArray] w (Ret fun v w' => (∃ a' c', v = .slice a' l.length c' ∧ l.length ≤ c' ∧ NumV w' a' l) ∧ Ext w w')
set_option maxHeartbeats 4000000 in
theorem c_Offsets {t : Ty} (hlen : t.elems.length ≤ 1073741824) {l : List (Int × Int)} (hl : l.length = t.elems.length) (hq : ∀ (i : Nat) q, l[i]? = some q → okS q.1 ∧ okA q.2)
    (ih : ∀ (i : Nat) e q, t.elems[i]? = some e → l[i]? = some q → AlC D a cp wd mx e q.2 ∧ SzC D a cp wd mx e q.1) : OfC D a cp wd mx t (offsI 0 l) := by
  intro a1 c1 w p hp hd ht
  refine W.enter (args := [.agg (szl wd mx).toArray, .slice a D.length cp, .agg (tyc t a1 c1).toArray]) Tryz.func34 rfl Tryz.ntmps34 rfl rfl ?_
  refine zst ?_
  refine WU.stp rfl rfl rfl (by first | exact stp_box rfl rfl | exact stp_box1 rfl rfl) ?_
  rintro _ w1 ⟨b1, rfl, n1⟩
  refine WU.stp rfl rfl rfl (by first | exact stp_box rfl rfl | exact stp_box1 rfl rfl) ?_
  rintro _ w2 ⟨b2, rfl, n2⟩
  have x2 := n1.ext.trans n2.ext
  have i1 : szb w2 b1 wd mx := n1.has.ext' n2.ext
  have i2 : tyb w2 b2 t a1 c1 := n2.has
  clear n1 n2
  have s2 := x2.size
  refine zst ?_
  refine W.loop (σ := Nat × Value) (fun (k, v) => [(14, .int .i64 k), (13, .int .i64 t.elems.length), (12, .slice a1 t.elems.length c1), (7, v), (8, .int .i64 (strSz 0 (l.take k))), (1, .slice a D.length cp), (3, pt b1)])
    (fun (k, v) D' wk => D' = [] ∧ k ≤ t.elems.length ∧ Ext w2 wk ∧ Own wk w2.heap.size 2 1 v (numL (offsI 0 (l.take k)))) (fun (k, _) => t.elems.length - k) (0, .slice none 0 0) ⟨rfl, Nat.zero_le _, Ext.rfl' _, Own.nil ..⟩ (by exact sub_of ⟨rfl, rfl, rfl, rfl, rfl, rfl, rfl, trivial⟩) ?_
  rintro ⟨k, v⟩ D' wr ⟨rfl, hk, xr, ho⟩
  have hsz := xr.size
  have j1 : szb wr b1 wd mx := i1.ext' xr
  refine zst ?_
  by_cases hlt : k < t.elems.length
  · rw [show decide ((k : Int) < (t.elems.length : Int)) = true by simpa using hlt]
    have he := List.getElem?_eq_getElem hlt
    have hb := List.getElem?_eq_getElem (show k < l.length by omega)
    generalize t.elems[k] = e at he
    generalize l[k] = q at hb
    obtain ⟨hq1, hq2⟩ := hq k q hb
    obtain ⟨hal, hsc⟩ := ih k e q he hb
    have htk : l.take (k + 1) = l.take k ++ [q] := by rw [List.take_add_one, hb]; rfl
    have hS := strSz_ok (l.take k) (m := 0) ⟨by decide, by decide⟩
    have hU := upI_ok (strSz 0 (l.take k)) q.2
    obtain ⟨b, o, a3, c3, rfl, hpb, hc, hte⟩ := ht.next he
    have hc' : Cells wr b (o + k * 8) (tyc e a3 c3) := hc.ext (x2.trans xr)
    refine zst ?_
    refine WU.yld rfl rfl rfl (yld_load_cells rfl hc') ?_
    refine WU.stp rfl rfl rfl stp_alloc ?_
    rintro _ w4 ⟨b3, rfl, n3⟩
    refine WU.stp0 rfl rfl (stp_store_whole rfl rfl rfl rfl) ?_
    rintro _ w5 u4
    have x4 : Ext wr w5 := (u4.ofNew n3).ext
    have s5 := x4.size
    have i5 : tyb w5 b3 e a3 c3 := u4.has
    have j5 : szb w5 b1 wd mx := j1.ext' x4
    have e3 := n3.num
    clear u4 n3
    have xx := x2.trans (xr.trans x4)
    refine zst ?_
    refine WU.stp rfl rfl rfl (stp_call rfl (hal a3 c3 w5 p (fun b hb => by have := hp b hb; omega) (hd.ext xx) (hte.ext xx))) ?_
    rintro _ w6 ⟨rfl, x6⟩
    refine WU.stp rfl rfl rfl (stp_call rfl (c_up (strSz 0 (l.take k)) q.2 hS hq2 w6)) ?_
    rintro _ _ ⟨rfl, rfl⟩
    refine zst ?_
    refine WU.stp rfl rfl rfl (stp_buildSlice rfl rfl rfl rfl rfl) ?_
    rintro _ w7 ⟨b7, rfl, n7⟩
    have x47 := (x4.trans (x6.trans n7.ext))
    refine WU.stp rfl rfl rfl (stp_append_cell rfl rfl (ho.ext x47) (cell_of n7.has rfl) rfl (by simp only [List.length_map, offsI_len, List.length_take]; omega) (by have := x47.size; omega)) ?_
    rintro v8 w8 ⟨h1, h2, h3⟩
    have y8 := h2.ext (ho.ext x47) (xr.trans x47) (Nat.le_refl _)
    have x8 := x2.trans y8
    have hb1 := i1.lt
    have i8 : tyb w8 b3 e a3 c3 := h2.keep (i5.ext' (x6.trans n7.ext)) fun k hk => by have := ho.lt k hk; omega
    have j8 : szb w8 b1 wd mx := h2.keep (j5.ext' (x6.trans n7.ext)) fun k hk => by have := ho.lt k hk; omega
    refine zst ?_
    refine WU.stp rfl rfl rfl (stp_call rfl (hsc a3 c3 w8 p (fun b hb => by have := hp b hb; have := x8.size; omega) (hd.ext x8) (hte.ext x8))) ?_
    rintro _ w9 ⟨rfl, x9⟩
    refine WU.stp rfl rfl rfl (stp_call rfl (c_sum (upI (strSz 0 (l.take k)) q.2) q.1 hU hq1 w9)) ?_
    rintro _ _ ⟨rfl, rfl⟩
    refine zst ?_
    exact ⟨(k + 1, v8), by show t.elems.length - (k + 1) < t.elems.length - k; omega, ⟨rfl, by omega, y8.trans x9, by rw [htk, offsI_snoc]; simpa [numL] using h1.ext x9⟩, sub_of ⟨rfl, rfl, rfl, rfl, by rw [htk, strSz_last]; rfl, rfl, rfl, trivial⟩⟩
  · rw [show decide ((k : Int) < (t.elems.length : Int)) = false by simpa using hlt]
    refine zst ?_
    rw [List.take_of_length_le (by omega)] at ho
    exact fin1 (.inl rfl) rfl rfl ⟨own_nums ho, x2.trans xr⟩
end
end Go.Proofs.YtpiegpegjbmlkaaGreatDoor
namespace Go.Kd
/-- the block behind a region, and the rest -/
def splitB : Code → Option (Code × Code)
  | .seq (.seq _ (.block i c)) b => some (.block i c, b)
  | .seq _ b => splitB b
  | _ => none
theorem W.useS {P : Program} {n : Nat} {Q : Post} {D : List Deferred} {e e' : Env} {w : World} {b c1' c2' : Code} (h : ∃ c1 c2, splitB b = some (c1, c2) ∧ W P n c1 (thn (W P n c2 Q) Q) D e' w) (hb : splitB b = some (c1', c2')) (hs : subs e e') : W P n c1' (thn (W P n c2' Q) Q) D e w := by
  obtain ⟨c1, c2, h1, h2⟩ := h
  cases h1.symm.trans hb
  exact h2.sub (sub_of hs)
end Go.Kd
namespace Go.Proofs.YtpiegpegjbmlkaaGreatDoor
open Go Go.Kd
set_option maxRecDepth 100000

abbrev gB : Nat := 0
/-- the table of sizes -/
def bsz : List Int := [0, 1, 0, 1, 2, 4, 8, 0, 1, 2, 4, 8, 0, 4, 8, 8, 16]
def Bsz (w : World) : Prop := ∀ (i : Nat) z, bsz[i]? = some z → w.cell? ⟨gB, i, none⟩ = some (.int .u8 z)
theorem Bsz.ext {w w' : World} (x : Ext w w') (h : Bsz w) : Bsz w' := fun i z hi => x.cell (h i z hi)
theorem bsz_at {k : Nat} (h : k < 17) (h0 : 0 < k) (wd : Int) : ∃ z, bsz[k]? = some z ∧ 0 ≤ z ∧ z ≤ 16 ∧ (0 < z → sBasic wd ((k : Int) - 1) = z) ∧ (z = 0 → sBasic wd ((k : Int) - 1) = wd) := by
  have hk : k = 1 ∨ k = 2 ∨ k = 3 ∨ k = 4 ∨ k = 5 ∨ k = 6 ∨ k = 7 ∨ k = 8 ∨ k = 9 ∨ k = 10 ∨ k = 11 ∨ k = 12 ∨ k = 13 ∨ k = 14 ∨ k = 15 ∨ k = 16 := by omega
  rcases hk with rfl | rfl | rfl | rfl | rfl | rfl | rfl | rfl | rfl | rfl | rfl | rfl | rfl | rfl | rfl | rfl <;> refine ⟨_, rfl, by decide, by decide, ?_, ?_⟩ <;> simp [sBasic]
def alk (z sz : Int) : Prop := alikeS z sz ∧ z ≤ 9223372036854775807 ∧ -9223372036854775808 ≤ z
theorem alk_self {z : Int} (h : 0 ≤ z) (h' : z ≤ 9223372036854775807) : alk z z := ⟨.inl rfl, h', by omega⟩
theorem alk_neg {s : Int} (h : s < 0) : alk (-1) s := ⟨.inr ⟨by decide, h⟩, by decide, by decide⟩
/-- what is there when sizes are asked for -/
structure StC (K : Cfg) (s : Gs) (w0 : World) (pb : Nat) (wd mx : Int) : Prop where
  ic : IC K s w0
  sl : ∀ d, s.sl d → d < w0.heap.size
  bz : Bsz w0
  has : Has w0 pb (.cells (szl wd mx).toArray 65)
  ok : OkW wd mx
section
variable {K : Cfg} {s : Gs} {w0 w : World} {pb b : Nat} {wd mx : Int} {v : Value} {t y : Ty}
def SzG (K : Cfg) (s : Gs) (w0 : World) (pb : Nat) (t : Ty) (sz : Int) : Prop := ∀ (v : Value) (w : World), RT K s w0 s.sl v t → Ext w0 w → Calls Tryz.prog 52 #[pt pb, v] w (Ret fun r w' => (∃ z, r = .int .i64 z ∧ alk z sz) ∧ Ext w w')
def AlG (K : Cfg) (s : Gs) (w0 : World) (pb : Nat) (t : Ty) (al : Int) : Prop := ∀ (v : Value) (w : World), RT K s w0 s.sl v t → Ext w0 w → Calls Tryz.prog 43 #[pt pb, v] w (Ret fun r w' => r = .int .i64 al ∧ Ext w w')
/-- behind the look at what underlies the type -/
def SzX (pb : Nat) (v u : Value) (sz : Int) (w0 w : World) : Prop := ∃ c1 c2, splitB (bodyA Tryz.f52) = some (c1, c2) ∧ W Tryz.prog 168 c1 (thn (W Tryz.prog 168 c2 (fin Tryz.prog Tryz.f52 (Ret fun r w' => (∃ z, r = .int .i64 z ∧ alk z sz) ∧ Ext w0 w'))) (fin Tryz.prog Tryz.f52 (Ret fun r w' => (∃ z, r = .int .i64 z ∧ alk z sz) ∧ Ext w0 w'))) [] [(0, pt pb), (1, v), (23, u)] w
theorem sz_basic (h : StC K s w0 pb wd mx) (x : Ext w0 w) (hv : RT K s w0 s.sl v t) (hg : Good K.D t) {n i : Int} {nb : ByteArray} (hn : 1 ≤ n ∧ n ≤ 18) (hb : Has w0 b (.cells #[.int .i64 n, .int .i64 i, .string nb] 139)) : SzX pb v (.iface 109 (pt b)) (sBasic wd (n - 1)) w w := by
  have hb' := hb.ext' x
  have hp := h.has.ext' x
  have hw := h.ok.wd
  have hs := sBasic_ok hw (n - 1)
  refine ⟨_, _, rfl, ?_⟩
  refine zst ?_
  refine WU.stp rfl rfl rfl (stp_call rfl (c_isTyped (h.ic.ext x) (hv.ext x) hg)) ?_
  rintro _ _ ⟨rfl, rfl⟩
  refine WU.stp rfl rfl rfl (stp_call rfl (c_assert w)) ?_
  rintro _ _ rfl
  refine zst ?_
  by_cases h17 : n < 17
  · rw [decide_eq_true h17]
    obtain ⟨k, rfl⟩ : ∃ k : Nat, n = k := ⟨n.toNat, by omega⟩
    obtain ⟨z, hz, z0, z1, z2, z3⟩ := bsz_at (k := k) (by omega) (by omega) wd
    refine zst ?_
    refine WU.yld rfl rfl rfl (yld_indexAddr_arr rfl rfl (by omega)) ?_
    refine WU.yld rfl rfl rfl (yld_load_c rfl ((h.bz.ext x) k z hz)) ?_
    refine zst ?_
    by_cases hz0 : z > 0
    · rw [decide_eq_true hz0]
      refine zst ?_
      refine WU.yld rfl rfl rfl (yld_conv_int rfl) ?_
      rw [IntWalk.i64_in _ (by omega)]
      refine zst ?_
      exact fin1 (.inl rfl) rfl rfl ⟨⟨_, rfl, by rw [z2 hz0]; exact alk_self (by omega) (by omega)⟩, Ext.rfl' _⟩
    · rw [decide_eq_false hz0]
      refine zst ?_
      rw [show ((k : Int) == 17) = false by simp; omega]
      refine zst ?_
      exact fin1 (.inl rfl) rfl rfl ⟨⟨_, rfl, by rw [z3 (by omega)]; exact alk_self (by omega) (by omega)⟩, Ext.rfl' _⟩
  · rw [decide_eq_false h17]
    refine zst ?_
    by_cases h7 : n = 17
    · subst h7
      refine zst ?_
      refine WU.yld rfl rfl rfl (yld_mul_in rfl rfl (by omega)) ?_
      refine zst ?_
      exact fin1 (.inl rfl) rfl rfl ⟨⟨_, rfl, by rw [show sBasic wd (17 - 1) = wd * 2 by simp [sBasic]; omega]; exact alk_self (by omega) (by omega)⟩, Ext.rfl' _⟩
    · obtain rfl : n = 18 := by omega
      refine zst ?_
      exact fin1 (.inl rfl) rfl rfl ⟨⟨_, rfl, by rw [show sBasic wd (18 - 1) = wd by simp [sBasic]]; exact alk_self (by omega) (by omega)⟩, Ext.rfl' _⟩
theorem sz_word (h : StC K s w0 pb wd mx) (x : Ext w0 w) {T : Nat} (hT : T = 128 ∨ T = 189 ∨ T = 191 ∨ T = 134) : SzX pb v (.iface T (pt b)) wd w w := by
  have hp := h.has.ext' x
  have hw := h.ok.wd
  rcases hT with rfl | rfl | rfl | rfl
  all_goals
    refine ⟨_, _, rfl, ?_⟩
    refine zst ?_
    exact fin1 (.inl rfl) rfl rfl ⟨⟨_, rfl, alk_self (by omega) (by omega)⟩, Ext.rfl' _⟩
theorem sz_slice (h : StC K s w0 pb wd mx) (x : Ext w0 w) : SzX pb v (.iface 107 (pt b)) (3 * wd) w w := by
  have hp := h.has.ext' x
  have hw := h.ok.wd
  refine ⟨_, _, rfl, ?_⟩
  refine zst ?_
  refine WU.yld rfl rfl rfl (yld_mul_in rfl rfl (by omega)) ?_
  refine zst ?_
  exact fin1 (.inl rfl) rfl rfl ⟨⟨_, rfl, by rw [Int.mul_comm]; exact alk_self (by omega) (by omega)⟩, Ext.rfl' _⟩
theorem sz_iface (h : StC K s w0 pb wd mx) (x : Ext w0 w) (hv : RT K s w0 s.sl v t) (hg : Good K.D t) : SzX pb v (.iface 108 (pt b)) (2 * wd) w w := by
  have hp := h.has.ext' x
  have hw := h.ok.wd
  have ic := h.ic.ext x
  refine ⟨_, _, rfl, ?_⟩
  refine zst ?_
  refine WU.stp rfl rfl rfl (stp_call rfl (c_isTypeParam ic.ok.sh ic.dc ic.er (hv.ext x) (rdy_of hg))) ?_
  rintro _ _ ⟨rfl, rfl⟩
  refine zst ?_
  refine WU.stp rfl rfl rfl (stp_call rfl (c_assert w)) ?_
  rintro _ _ rfl
  refine zst ?_
  refine WU.yld rfl rfl rfl (yld_mul_in rfl rfl (by omega)) ?_
  refine zst ?_
  exact fin1 (.inl rfl) rfl rfl ⟨⟨_, rfl, by rw [Int.mul_comm]; exact alk_self (by omega) (by omega)⟩, Ext.rfl' _⟩
theorem sz_arr (_ : StC K s w0 pb wd mx) (x : Ext w0 w) {u : Value} {e : Ty} {n sz al : Int} (hn : 0 ≤ n ∧ n ≤ 9223372036854775807) (hs : okS sz) (hal : okA al) (is : SzG K s w0 pb e sz) (ia : AlG K s w0 pb e al) (hu : RT K s w0 s.sl u e)
    (hb : Has w0 b (.cells #[.int .i64 n, u] 96)) : SzX pb v (.iface 94 (pt b)) (arrSz n sz al) w w := by
  have hb1 := hb.ext' x
  refine ⟨_, _, rfl, ?_⟩
  refine zst ?_
  by_cases h0 : n ≤ 0
  · rw [decide_eq_true h0]
    obtain rfl : n = 0 := by omega
    refine zst ?_
    exact fin1 (.inl rfl) rfl rfl ⟨⟨_, rfl, alk_self (by omega) (by omega)⟩, Ext.rfl' _⟩
  rw [decide_eq_false h0]
  refine zst ?_
  refine WU.stp rfl rfl rfl (stp_call rfl (is u w hu x)) ?_
  rintro _ w1 ⟨⟨z, rfl, hz⟩, x1⟩
  have hb2 := hb1.ext' x1
  obtain ⟨hz1, hz2, hz3⟩ := hz
  have hs' : -1 ≤ sz ∧ sz ≤ 9223372036854775807 := hs
  refine zst ?_
  by_cases hneg : z < 0
  · rw [decide_eq_true hneg]
    refine zst ?_
    exact fin1 (.inl rfl) rfl rfl ⟨⟨_, rfl, alk_neg (arr_neg (by omega) (by unfold alikeS at hz1; omega))⟩, x1⟩
  rw [decide_eq_false hneg]
  obtain rfl : z = sz := by unfold alikeS at hz1; omega
  refine zst ?_
  by_cases hz0 : z = 0
  · subst hz0
    refine zst ?_
    exact fin1 (.inl rfl) rfl rfl ⟨⟨_, rfl, by rw [arr_zero (by omega) hal]; exact alk_self (by omega) (by omega)⟩, x1⟩
  rw [show (z == 0) = false by simpa using hz0]
  refine zst ?_
  refine WU.stp rfl rfl rfl (stp_call rfl (ia u w1 hu (x.trans x1))) ?_
  rintro _ w2 ⟨rfl, x2⟩
  refine zst ?_
  refine WU.stp rfl rfl rfl (stp_call rfl (c_align z al ⟨by omega, hz2⟩ hal w2)) ?_
  rintro _ _ ⟨⟨ea, rfl, he1, he2, he3⟩, rfl⟩
  have hU : -1 ≤ upI z al ∧ upI z al ≤ 9223372036854775807 := upI_ok z al
  refine zst ?_
  by_cases hen : ea < 0
  · rw [decide_eq_true hen]
    refine zst ?_
    exact fin1 (.inl rfl) rfl rfl ⟨⟨_, rfl, alk_neg (arr_up (by omega) (by unfold alikeS at he1; omega))⟩, x1.trans x2⟩
  rw [decide_eq_false hen]
  obtain rfl : ea = upI z al := by unfold alikeS at he1; omega
  refine zst ?_
  have fin : (1 < n → upI z al ≤ mxI / (n - 1)) → alk (IntKind.i64.wrap (IntKind.i64.wrap (upI z al * (n - 1)) + z)) (arrSz n z al) := fun hb => by
    obtain ⟨h1, h2⟩ := arr_fin (n := n) (s := z) (a := al) (by omega) ⟨by omega, hz2⟩ hal (by omega) hb
    have h3 : IntKind.i64.wrap (IntKind.i64.wrap (upI z al * (n - 1)) + z) = wr (upI z al * (n - 1) + z) := by
      show wr (wr (upI z al * (n - 1)) + z) = _
      rw [h1]
    rw [h3]
    have := wr_range (upI z al * (n - 1) + z)
    exact ⟨h2, this.2, this.1⟩
  by_cases h1 : n - 1 > 0
  · rw [decide_eq_true h1]
    refine zst ?_
    refine WU.yld rfl rfl rfl (yld_quo_pos rfl rfl (by omega) (by omega) (by omega)) ?_
    refine zst ?_
    by_cases hbig : upI z al > 9223372036854775807 / (n - 1)
    · rw [decide_eq_true hbig]
      refine zst ?_
      exact fin1 (.inl rfl) rfl rfl ⟨⟨_, rfl, alk_neg (arr_big (by omega) hbig)⟩, x1.trans x2⟩
    · rw [decide_eq_false hbig]
      refine zst ?_
      refine WU.yld rfl rfl rfl (yld_mul rfl rfl) ?_
      refine zst ?_
      refine WU.yld rfl rfl rfl (yld_add rfl rfl) ?_
      refine zst ?_
      exact fin1 (.inl rfl) rfl rfl ⟨⟨_, rfl, fin fun _ => by unfold mxI; omega⟩, x1.trans x2⟩
  · rw [decide_eq_false h1]
    refine zst ?_
    refine WU.yld rfl rfl rfl (yld_mul rfl rfl) ?_
    refine zst ?_
    refine WU.yld rfl rfl rfl (yld_add rfl rfl) ?_
    refine zst ?_
    exact fin1 (.inl rfl) rfl rfl ⟨⟨_, rfl, fin fun h => by omega⟩, x1.trans x2⟩
end
end Go.Proofs.YtpiegpegjbmlkaaGreatDoor
namespace Go.Proofs.YtpiegpegjbmlkaaGreatDoor
open Go Go.Kd
set_option maxRecDepth 100000

/-- fields of a struct, in memory -/
structure FldsV (K : Cfg) (s : Gs) (w0 w : World) (a : Option Addr) (es : List Ty) (vb : Nat → Nat) (vv : Nat → Value) : Prop where
  cell : ∀ i, i < es.length → ∃ b, a = some ⟨b, 0, none⟩ ∧ w.cell? ⟨b, 0 + i * 1, none⟩ = some (pt (vb i))
  fld : ∀ (i : Nat) e, es[i]? = some e → RT K s w0 s.sl (vv i) e ∧ ∃ pk kd em, Has w0 (vb i) (.cells #[.int .i64 0, pk, .string e.name, vv i, .int .u8 kd, .bool em] 106)
def zal (zs : List Int) (os : List Int) (k : Nat) : Prop := ∀ (i : Nat) z o, i < k → zs[i]? = some z → os[i]? = some o → alk z o
section
variable {K : Cfg} {s : Gs} {w0 w : World} {pb b : Nat} {wd mx : Int} {v : Value} {t y : Ty}
theorem offsI_take : ∀ (l : List (Int × Int)) (m : Int) (k : Nat), offsI m (l.take k) = (offsI m l).take k
  | [], _, k => by simp [offsI]
  | (s, a) :: r, m, 0 => by simp [offsI]
  | (s, a) :: r, m, k + 1 => by simp only [List.take_succ_cons, offsI, offsI_take r]
theorem offsI_at (l : List (Int × Int)) (k : Nat) {q : Int × Int} (h : l[k]? = some q) : (offsI 0 l)[k]? = some (upI (strSz 0 (l.take k)) q.2) := by
  have hk := (List.getElem?_eq_some_iff.1 h).1
  have h1 : offsI 0 (l.take (k + 1)) = offsI 0 (l.take k) ++ [upI (strSz 0 (l.take k)) q.2] := by
    rw [show l.take (k + 1) = l.take k ++ [q] by rw [List.take_add_one, h]; rfl, offsI_snoc]
  have h2 : (offsI 0 (l.take (k + 1)))[k]? = some (upI (strSz 0 (l.take k)) q.2) := by
    rw [h1, List.getElem?_append_right (by rw [offsI_len, List.length_take]; omega), offsI_len, List.length_take, show k - min k l.length = 0 by omega]
    rfl
  rw [offsI_take, List.getElem?_take_of_lt (by omega)] at h2
  exact h2
set_option maxHeartbeats 4000000 in
theorem c_gOffsetsof (_ : StC K s w0 pb wd mx) (x : Ext w0 w) {es : List Ty} {fa : Option Addr} {fc : Nat} {vb : Nat → Nat} {vv : Nat → Value} (hf : FldsV K s w0 w fa es vb vv) (hlen : es.length ≤ 1073741824) {l : List (Int × Int)} (hl : l.length = es.length) (hq : ∀ (i : Nat) q, l[i]? = some q → okS q.1 ∧ okA q.2)
    (ih : ∀ (i : Nat) e q, es[i]? = some e → l[i]? = some q → SzG K s w0 pb e q.1 ∧ AlG K s w0 pb e q.2) :
    Calls Tryz.prog 55 #[pt pb, .slice fa es.length fc] w (Ret fun r w' => (∃ b zs, r = .slice (some ⟨b, 0, none⟩) es.length es.length ∧ zs.length = es.length ∧ Has w' b (.cells (zs.map fun z => Value.int .i64 z).toArray 2) ∧ zal zs (offsI 0 l) es.length) ∧ Ext w w') := by
  refine W.enter (args := [pt pb, .slice fa es.length fc]) Tryz.func55 rfl Tryz.ntmps55 rfl rfl ?_
  refine zst ?_
  refine WU.stp rfl rfl rfl (stp_makeSlice (n := es.length) rfl rfl (by omega)) ?_
  rintro _ w1 ⟨gb, rfl, n1⟩
  have x1 := n1.ext
  have e1 := n1.num
  have i1 : Has w1 gb (.cells ((List.replicate es.length (0 : Int)).map fun z => Value.int .i64 z).toArray 2) := by
    have := n1.has
    rwa [show (List.replicate es.length (0 : Int)).map (fun z => Value.int .i64 z) = List.replicate es.length (.int .i64 0) by simp]
  clear n1
  refine zst ?_
  refine W.loop (σ := Nat × Int × List Int) (fun (k, o, _) => [(16, .int .i64 k), (15, .int .i64 es.length), (14, .slice fa es.length fc), (6, .int .i64 o), (5, .slice (some ⟨gb, 0, none⟩) es.length es.length), (0, pt pb)])
    (fun (k, o, zs) D' wk => D' = [] ∧ k ≤ es.length ∧ Ext w wk ∧ zs.length = es.length ∧ Has wk gb (.cells (zs.map fun z => Value.int .i64 z).toArray 2) ∧ zal zs (offsI 0 l) k ∧ alk o (strSz 0 (l.take k))) (fun (k, _) => es.length - k) (0, 0, List.replicate es.length 0)
    ⟨rfl, Nat.zero_le _, x1, by simp, i1, fun i z o hi => by omega, by simp [strSz]; exact alk_self (by omega) (by omega)⟩ (by exact sub_of ⟨rfl, rfl, rfl, rfl, rfl, rfl, trivial⟩) ?_
  rintro ⟨k, o, zs⟩ D' wr ⟨rfl, hk, xr, hzl, hz, hza, ho⟩
  have hsz := xr.size
  refine zst ?_
  by_cases hlt : k < es.length
  · rw [show decide ((k : Int) < (es.length : Int)) = true by simpa using hlt]
    have he := List.getElem?_eq_getElem hlt
    have hb := List.getElem?_eq_getElem (show k < l.length by omega)
    generalize es[k] = e at he
    generalize l[k] = q at hb
    obtain ⟨hq1, hq2⟩ := hq k q hb
    have hq1' : -1 ≤ q.1 ∧ q.1 ≤ 9223372036854775807 := hq1
    obtain ⟨iS, iA⟩ := ih k e q he hb
    have htk : l.take (k + 1) = l.take k ++ [q] := by rw [List.take_add_one, hb]; rfl
    have hS : -1 ≤ strSz 0 (l.take k) ∧ strSz 0 (l.take k) ≤ 9223372036854775807 := strSz_ok (l.take k) (m := 0) ⟨by decide, by decide⟩
    have hU : -1 ≤ upI (strSz 0 (l.take k)) q.2 ∧ upI (strSz 0 (l.take k)) q.2 ≤ 9223372036854775807 := upI_ok (strSz 0 (l.take k)) q.2
    obtain ⟨fb, rfl, hfc⟩ := hf.cell k hlt
    obtain ⟨hrt, pk, kd, em, hvv⟩ := hf.fld k e he
    have hvr := hvv.ext' (x.trans xr)
    have hoa := offsI_at l k hb
    have put : ∀ z : Int, alk z (upI (strSz 0 (l.take k)) q.2) → (zs.set k z).length = es.length ∧ zal (zs.set k z) (offsI 0 l) (k + 1) := fun z hz => by
      refine ⟨by simp [hzl], fun i z' o' hi h1 h2 => ?_⟩
      by_cases hik : i = k
      · subst hik
        rw [List.getElem?_set_self (by omega)] at h1
        rw [hoa] at h2
        cases h1
        cases h2
        exact hz
      · rw [List.getElem?_set_ne (Ne.symm hik)] at h1
        exact hza i z' o' (by omega) h1 h2
    have hset : ∀ z : Int, ((zs.map fun z => Value.int .i64 z).toArray.setIfInBounds k (.int .i64 z)) = ((zs.set k z).map fun z => Value.int .i64 z).toArray := fun z => by simp [List.map_set]
    refine zst ?_
    refine WU.yld rfl rfl rfl (yld_load_c rfl (xr.cell hfc)) ?_
    refine zst ?_
    obtain ⟨ho1, ho2, ho3⟩ := ho
    by_cases hneg : o < 0
    · rw [decide_eq_true hneg]
      refine zst ?_
      refine WU.stp0 rfl rfl (stp_store_at (cs := (zs.map fun z => Value.int .i64 z).toArray) rfl rfl (by simp; omega) rfl) ?_
      rintro _ w2 u2
      have hn := upI_neg (x := strSz 0 (l.take k)) (a := q.2) (by unfold alikeS at ho1; omega)
      obtain ⟨p1, p2⟩ := put (-1) (by rw [hn]; exact alk_neg (by decide))
      have i2 := u2.has
      rw [show 0 + k * 1 = k by omega, hset] at i2
      refine zst ?_
      exact ⟨(k + 1, o, zs.set k (-1)), by show es.length - (k + 1) < es.length - k; omega, ⟨rfl, by omega, u2.ext xr (by omega), p1, i2, p2, by rw [htk, strSz_last, hn, sumI_neg (.inl (by decide))]; exact ⟨.inr ⟨hneg, by decide⟩, ho2, ho3⟩⟩, sub_of ⟨rfl, rfl, rfl, rfl, rfl, rfl, trivial⟩⟩
    rw [decide_eq_false hneg]
    obtain rfl : o = strSz 0 (l.take k) := by unfold alikeS at ho1; omega
    refine zst ?_
    refine WU.stp rfl rfl rfl (stp_call rfl (iA (vv k) wr hrt (x.trans xr))) ?_
    rintro _ w2 ⟨rfl, x2⟩
    refine zst ?_
    refine WU.stp rfl rfl rfl (stp_call rfl (c_align _ q.2 ⟨by omega, ho2⟩ hq2 w2)) ?_
    rintro _ _ ⟨⟨ea, rfl, he1, he2, he3⟩, rfl⟩
    have i2 := hz.ext' x2
    refine zst ?_
    refine WU.stp0 rfl rfl (stp_store_at (cs := (zs.map fun z => Value.int .i64 z).toArray) rfl rfl (by simp; omega) rfl) ?_
    rintro _ w3 u3
    obtain ⟨p1, p2⟩ := put ea ⟨he1, he2, he3⟩
    have i3 := u3.has
    rw [show 0 + k * 1 = k by omega, hset] at i3
    have x3 : Ext w w3 := u3.ext (xr.trans x2) (by omega)
    have hv3 := hvv.ext' (x.trans x3)
    refine zst ?_
    refine WU.stp rfl rfl rfl (stp_call rfl (iS (vv k) w3 hrt (x.trans x3))) ?_
    rintro _ w4 ⟨⟨z, rfl, hz1, hz2, hz3⟩, x4⟩
    have i4 := i3.ext' x4
    refine zst ?_
    have fin : ∀ (o' : Int), alk o' (sumI (upI (strSz 0 (l.take k)) q.2) q.1) → alk o' (strSz 0 (l.take (k + 1))) := fun o' h => by rw [htk, strSz_last]; exact h
    by_cases hz0 : z ≥ 0
    · rw [decide_eq_true hz0]
      refine zst ?_
      by_cases hea : ea ≥ 0
      · rw [decide_eq_true hea]
        refine zst ?_
        refine WU.yld rfl rfl rfl (yld_add rfl rfl) ?_
        refine zst ?_
        have hA : alk (IntKind.i64.wrap (ea + z)) (sumI (upI (strSz 0 (l.take k)) q.2) q.1) := by
          have h1 : ea = upI (strSz 0 (l.take k)) q.2 := by unfold alikeS at he1; omega
          have h2 : z = q.1 := by unfold alikeS at hz1; omega
          rw [← h1, ← h2]
          have := wr_range (ea + z)
          exact ⟨sum_alike ⟨hea, he2⟩ ⟨hz0, hz2⟩, this.2, this.1⟩
        exact ⟨(k + 1, _, zs.set k ea), by show es.length - (k + 1) < es.length - k; omega, ⟨rfl, by omega, x3.trans x4, p1, i4, p2, fin _ hA⟩, sub_of ⟨rfl, rfl, rfl, rfl, rfl, rfl, trivial⟩⟩
      · rw [decide_eq_false hea]
        refine zst ?_
        exact ⟨(k + 1, -1, zs.set k ea), by show es.length - (k + 1) < es.length - k; omega, ⟨rfl, by omega, x3.trans x4, p1, i4, p2, fin _ (by rw [sumI_neg (.inl (by unfold alikeS at he1; omega))]; exact alk_neg (by decide))⟩, sub_of ⟨rfl, rfl, rfl, rfl, rfl, rfl, trivial⟩⟩
    · rw [decide_eq_false hz0]
      refine zst ?_
      exact ⟨(k + 1, -1, zs.set k ea), by show es.length - (k + 1) < es.length - k; omega, ⟨rfl, by omega, x3.trans x4, p1, i4, p2, fin _ (by rw [sumI_neg (.inr (by unfold alikeS at hz1; omega))]; exact alk_neg (by decide))⟩, sub_of ⟨rfl, rfl, rfl, rfl, rfl, rfl, trivial⟩⟩
  · rw [show decide ((k : Int) < (es.length : Int)) = false by simpa using hlt]
    refine zst ?_
    obtain rfl : k = es.length := by omega
    exact fin1 (.inl rfl) rfl rfl ⟨⟨gb, zs, rfl, hzl, hz, hza⟩, xr⟩
end
end Go.Proofs.YtpiegpegjbmlkaaGreatDoor
namespace Go.Proofs.YtpiegpegjbmlkaaGreatDoor
open Go Go.Kd
set_option maxRecDepth 100000

/-- basic types that underlie others -/
theorem under_n0 {D : List De} (hD : OkD D) {t : Ty} (hG : Good D t) (hk : (underT D t).kind = 0) : 0 ≤ (underT D t).n ∧ (underT D t).n ≤ 17 := by
  obtain ⟨i, v, hi, hs⟩ := hG.sh
  have key : ∀ b : Ty, (∃ i v, Shaped D i v b) → (errN (norm b)).kind = 0 → 0 ≤ (errN (norm b)).n ∧ (errN (norm b)).n ≤ 17 := fun b hb hk => by
    obtain ⟨i, v, hs⟩ := hb
    have hk0 : b.kind = 0 := by
      rcases norm_cases b with ⟨h1, h2⟩ | ⟨h1, _, _⟩ | ⟨h1, _, _⟩
      · rw [h2, errN_kind_ne h1] at hk; exact absurd hk h1
      · exact h1
      · exact h1
    have h0 := hs.shape.n0 (by rw [hk0]; simp [limitN])
    have h1 := hs.shape.n1 (by rw [hk0]; simp [limitN])
    rw [hk0] at h1
    simp [limitN] at h1
    have hn : (norm b).kind = 0 → 0 ≤ (norm b).n ∧ ((norm b).n ≤ 17 ∨ (norm b).n = 20) := by
      intro hh
      unfold norm at hh ⊢
      rw [if_pos hk0] at hh ⊢
      split
      · cases b; simp [Ty.setN, Ty.n]
      split
      · cases b; simp [Ty.setN, Ty.n]
      split
      · rename_i h2 h3 h4
        rw [if_neg h2, if_neg h3, if_pos h4] at hh
        simp [anyT, Ty.kind] at hh
      · omega
    unfold errN at hk ⊢
    split at hk
    · simp [errT, Ty.kind] at hk
    · rename_i h2
      rw [if_neg h2]
      have := hn hk
      omega
  rcases under_cases hD.sh hi hs with ⟨_, _, h⟩ | ⟨j, e, _, _, _, he, _, h⟩
  · rw [h] at hk ⊢
    exact key t ⟨i, v, hs⟩ hk
  · rw [h] at hk ⊢
    exact key e.ty ⟨j, true, hD.sh j e he⟩ hk
section
variable {D : List De} {a : Option Addr} {cp : Nat} {wd mx : Int}
/-- behind the underlying type -/
def SzT (D : List De) (a : Option Addr) (cp : Nat) (wd mx : Int) (u : Ty) (al : Int) : Prop := ∀ (a2 : Option Addr) (c2 : Nat) (w0 w : World) (p : Nat → Prop) (b1 b2 : Nat), (∀ b, p b → b < w.heap.size) → DsV w p (.slice a D.length cp) D → TysV w p a2 c2 u.elems → szb w b1 wd mx → tyb w b2 u a2 c2 → Ext w0 w →
  ∃ c, dropA 2 (bodyA Tryz.f25) = some c ∧ W Tryz.prog 85 c (fin Tryz.prog Tryz.f25 (Ret fun v w' => v = .int .i64 al ∧ Ext w0 w')) [] [(1, .slice a D.length cp), (3, pt b1), (5, pt b2)] w
theorem SzT.enter (hD : OkD D) {t : Ty} (hG : Good D t) {al : Int} (h : SzT D a cp wd mx (underT D t) al) : SzC D a cp wd mx t al := by
  intro a1 c1 w p hp hd ht
  refine W.enter (args := [.agg (szl wd mx).toArray, .slice a D.length cp, .agg (tyc t a1 c1).toArray]) Tryz.func25 rfl Tryz.ntmps25 rfl rfl ?_
  refine zst ?_
  refine WU.stp rfl rfl rfl (by first | exact stp_box rfl rfl | exact stp_box1 rfl rfl) ?_
  rintro _ w1 ⟨b1, rfl, n1⟩
  refine WU.stp rfl rfl rfl (by first | exact stp_box rfl rfl | exact stp_box1 rfl rfl) ?_
  rintro _ w2 ⟨b2, rfl, n2⟩
  refine zst ?_
  have e1 := n1.num
  have s1 := n1.size
  have e2 := n2.num
  have s2 := n2.size
  have x12 := n1.ext.trans n2.ext
  refine WU.stp rfl rfl rfl (stp_call rfl (c_Underlying hD hG a cp a1 c1 w2 (fun b hb => by have := hp b hb; omega) (hd.ext x12) (ht.ext x12))) ?_
  rintro _ w3 ⟨a2, c2, rfl, ht3, x3⟩
  have i1 : szb w3 b1 wd mx := (n1.has.ext' n2.ext).ext' x3
  have h2 : Has w3 b2 _ := n2.has.ext' x3
  have s3 := x3.size
  refine WU.stp0 rfl rfl (stp_store_whole rfl rfl rfl rfl) ?_
  rintro _ w4 u4
  have s4 := u4.size
  have x04 : Ext w w4 := u4.ext (x12.trans x3) (by omega)
  have ht4 : TysV w4 (btw w2 w3 p) a2 c2 (underT D t).elems := ht3.upd u4 (fun h => by
    rcases h with h | h
    · have := hp _ h; omega
    · omega)
  have hpp : ∀ b, btw w2 w3 p b → b < w4.heap.size := fun b hb => by
    rcases hb with hb | hb
    · have := hp b hb; omega
    · omega
  have hd4 : DsV w4 (btw w2 w3 p) (.slice a D.length cp) D := (hd.ext x04).mono fun b hb => .inl hb
  have i4 : szb w4 b1 wd mx := u4.keep i1 (by omega)
  have j4 : tyb w4 b2 (underT D t) a2 c2 := u4.has
  (repeat ((fail_if_success guard_target =~ gW (.seq (.region 2 _ _) _)); (fail_if_success guard_target =~ gW (.seq (.seq (.region 2 _ _) _) _)); refine zs1 ?_))
  exact W.useA (h a2 c2 w w4 _ b1 b2 hpp hd4 ht4 i4 j4 x04) rfl ⟨rfl, rfl, rfl, trivial⟩
theorem SzT.basic {u : Ty} (hw : wd = 4 ∨ wd = 8) (hk : u.kind = 0) (h0 : 0 ≤ u.n) (h1 : u.n ≤ 17) : SzT D a cp wd mx u (sBasic wd u.n) := by
  intro a2 c2 w0 w p b1 b2 hp hd ht i1 i2 x0
  refine ⟨_, rfl, ?_⟩
  refine zst ?_
  rw [show (u.kind == 0) = true by simp; omega]
  refine zst ?_
  refine WU.stp rfl rfl rfl (stp_call rfl (c_basicSize wd mx u.n hw h0 h1 w)) ?_
  rintro _ w1 ⟨rfl, x1⟩
  refine zst ?_
  exact fin1 (.inl rfl) rfl rfl ⟨rfl, x0.trans x1⟩
theorem SzT.slice {u : Ty} (hw : wd = 4 ∨ wd = 8) (hk : u.kind = 3) : SzT D a cp wd mx u (3 * wd) := by
  intro a2 c2 w0 w p b1 b2 hp hd ht i1 i2 x0
  refine ⟨_, rfl, ?_⟩
  refine zst ?_
  rw [show (u.kind == 0) = false by simp; omega]
  refine zst ?_
  rw [show (u.kind == 3) = true by simp; omega]
  refine zst ?_
  refine WU.yld rfl rfl rfl (yld_mul_in rfl rfl (by omega)) ?_
  refine zst ?_
  exact fin1 (.inl rfl) rfl rfl ⟨rfl, x0⟩
theorem SzT.iface {u : Ty} (hw : wd = 4 ∨ wd = 8) (hk : u.kind = 9) : SzT D a cp wd mx u (2 * wd) := by
  intro a2 c2 w0 w p b1 b2 hp hd ht i1 i2 x0
  refine ⟨_, rfl, ?_⟩
  refine zst ?_
  rw [show (u.kind == 0) = false by simp; omega]
  refine zst ?_
  rw [show (u.kind == 3) = false by simp; omega]
  refine zst ?_
  rw [show (u.kind == 9) = true by simp; omega]
  refine zst ?_
  refine WU.yld rfl rfl rfl (yld_mul_in rfl rfl (by omega)) ?_
  refine zst ?_
  exact fin1 (.inl rfl) rfl rfl ⟨rfl, x0⟩
theorem SzT.word {u : Ty} (hk : u.kind = 1 ∨ u.kind = 2 ∨ u.kind = 5 ∨ u.kind = 6 ∨ u.kind = 8) : SzT D a cp wd mx u wd := by
  intro a2 c2 w0 w p b1 b2 hp hd ht i1 i2 x0
  refine ⟨_, rfl, ?_⟩
  refine zst ?_
  rw [show (u.kind == 0) = false by simp; omega]
  refine zst ?_
  rw [show (u.kind == 3) = false by simp; omega]
  refine zst ?_
  rw [show (u.kind == 9) = false by simp; omega]
  refine zst ?_
  rw [show (u.kind == 4) = false by simp; omega]
  refine zst ?_
  rw [show (u.kind == 7) = false by simp; omega]
  refine zst ?_
  exact fin1 (.inl rfl) rfl rfl ⟨rfl, x0⟩
set_option maxHeartbeats 2000000 in
theorem SzT.arr {u e : Ty} {s al : Int} (hk : u.kind = 4) (hn : 0 ≤ u.n ∧ u.n ≤ 9223372036854775807) (he : u.elems = [e]) (hs : okS s) (hal : okA al) (ia : AlC D a cp wd mx e al) (is : SzC D a cp wd mx e s) : SzT D a cp wd mx u (arrSz u.n s al) := by
  intro a2 c2 w0 w p b1 b2 hp hd ht i1 i2 x0
  unfold arrSz
  refine ⟨_, rfl, ?_⟩
  refine zst ?_
  rw [show (u.kind == 0) = false by simp; omega]
  refine zst ?_
  rw [show (u.kind == 3) = false by simp; omega]
  refine zst ?_
  rw [show (u.kind == 9) = false by simp; omega]
  refine zst ?_
  rw [show (u.kind == 4) = true by simp; omega]
  refine zst ?_
  by_cases hn0 : u.n = 0
  · rw [show (u.n == 0) = true by simpa using hn0, if_pos hn0]
    refine zst ?_
    exact fin1 (.inl rfl) rfl rfl ⟨rfl, x0⟩
  rw [show (u.n == 0) = false by simpa using hn0, if_neg hn0]
  have he0 : u.elems[0]? = some e := by rw [he]; rfl
  have hl1 : u.elems.length = 1 := by rw [he]; rfl
  obtain ⟨b, o, a3, c3, rfl, hpb, hc, hte⟩ := ht.next he0
  have hc' : Cells w b o (tyc e a3 c3) := by simpa using hc
  refine zst ?_
  refine W.regD [(0, .q), (1, .q), (2, .q), (3, .q), (4, .q), (5, .q), (6, .l), (7, .q)] (by kernel_rfl) (by kernel_rfl) rfl ?_
  intro w1 x1 _
  have k1 : szb w1 b1 wd mx := i1.ext' x1
  have k2 : tyb w1 b2 u (some ⟨b, o, none⟩) c2 := i2.ext' x1
  refine zsd ?_
  refine WD.yld rfl rfl rfl rfl (yld_load_cells (l := tyc e a3 c3) rfl (by simpa using hc'.ext x1)) ?_
  refine zsd ?_
  refine WD.stp rfl rfl rfl rfl (stp_call rfl (is a3 c3 w1 p (fun b hb => by have := hp b hb; have := x1.size; omega) (hd.ext x1) (hte.ext x1))) ?_
  rintro _ w2 ⟨rfl, x2⟩
  refine ⟨by first | assumption | exact Ext.rfl' _ | infer_instance, ?_⟩
  refine zsd ?_
  refine zst ?_
  have x12 := x1.trans x2
  refine W.regD [(0, .q), (1, .q), (2, .q), (3, .q), (4, .q), (5, .q), (6, .q), (7, .q), (8, .q), (9, .q), (13, .q), (10, .l), (11, .l), (12, .l), (14, .l), (15, .q)] (by kernel_rfl) (by kernel_rfl) rfl ?_
  intro w3 x3 _
  have x13 := x12.trans x3
  have m1 : szb w3 b1 wd mx := k1.ext' (x2.trans x3)
  have m2 : tyb w3 b2 u (some ⟨b, o, none⟩) c2 := k2.ext' (x2.trans x3)
  refine zsd ?_
  refine WD.yld rfl rfl rfl rfl (yld_load_cells (l := tyc e a3 c3) rfl (by simpa using hc'.ext x13)) ?_
  refine zsd ?_
  refine WD.stp rfl rfl rfl rfl (stp_call rfl (ia a3 c3 w3 p (fun b hb => by have := hp b hb; have := x13.size; omega) (hd.ext x13) (hte.ext x13))) ?_
  rintro _ w4 ⟨rfl, x4⟩
  refine ⟨by first | assumption | exact Ext.rfl' _ | infer_instance, ?_⟩
  refine zsd ?_
  refine WD.stp rfl rfl rfl rfl (stp_call rfl (c_up s al hs hal w4)) ?_
  rintro _ _ ⟨rfl, rfl⟩
  refine ⟨by first | assumption | exact Ext.rfl' _ | infer_instance, ?_⟩
  refine zsd ?_
  refine WD.stp rfl rfl rfl rfl (stp_call rfl (c_product (u.n - 1) (upI s al) ⟨by omega, by unfold mxI; omega⟩ (upI_ok _ _) w4)) ?_
  rintro _ _ ⟨rfl, rfl⟩
  refine ⟨by first | assumption | exact Ext.rfl' _ | infer_instance, ?_⟩
  refine zsd ?_
  refine WD.stp rfl rfl rfl rfl (stp_call rfl (c_sum (prodI (u.n - 1) (upI s al)) s (prodI_ok _ _) hs w4)) ?_
  rintro _ _ ⟨rfl, rfl⟩
  refine ⟨by first | assumption | exact Ext.rfl' _ | infer_instance, ?_⟩
  refine zsd ?_
  refine zst ?_
  exact fin1 (.inl rfl) rfl rfl ⟨rfl, x0.trans (x13.trans x4)⟩
theorem strSz_empty {l : List (Int × Int)} (h : l.length = 0) : strSz 0 l = 0 := by
  rw [List.length_eq_zero_iff.1 h]; rfl
theorem last_of {α : Type} {l : List α} {k : Nat} (h : l.length = k + 1) : ∃ i q, l = i ++ [q] ∧ i.length = k ∧ l[k]? = some q := by
  refine ⟨l.take k, l[k]'(by omega), ?_, by rw [List.length_take]; omega, by rw [List.getElem?_eq_getElem (by omega)]⟩
  have := List.take_append_drop k l
  rw [List.drop_eq_getElem_cons (by omega), List.drop_of_length_le (by omega)] at this
  exact this.symm
set_option maxHeartbeats 2000000 in
theorem SzT.str {u : Ty} (hk : u.kind = 7) (hlen : u.elems.length ≤ 1073741824) {l : List (Int × Int)} (hl : l.length = u.elems.length) (hq : ∀ (i : Nat) q, l[i]? = some q → okS q.1 ∧ okA q.2)
    (ih : ∀ (i : Nat) e q, u.elems[i]? = some e → l[i]? = some q → AlC D a cp wd mx e q.2 ∧ SzC D a cp wd mx e q.1) : SzT D a cp wd mx u (strSz 0 l) := by
  intro a2 c2 w0 w p b1 b2 hp hd ht i1 i2 x0
  refine ⟨_, rfl, ?_⟩
  refine zst ?_
  rw [show (u.kind == 0) = false by simp; omega]
  refine zst ?_
  rw [show (u.kind == 3) = false by simp; omega]
  refine zst ?_
  rw [show (u.kind == 9) = false by simp; omega]
  refine zst ?_
  rw [show (u.kind == 4) = false by simp; omega]
  refine zst ?_
  rw [show (u.kind == 7) = true by simp; omega]
  refine zst ?_
  refine WU.stp rfl rfl rfl (stp_call rfl (c_Offsets hlen hl hq ih a2 c2 w p hp hd ht)) ?_
  rintro r w1 ⟨⟨a3, c3, rfl, hc3, hnum⟩, x1⟩
  have k1 : szb w1 b1 wd mx := i1.ext' x1
  have k2 : tyb w1 b2 u a2 c2 := i2.ext' x1
  rw [offsI_len, hl]
  refine zst ?_
  by_cases h0 : u.elems.length = 0
  · rw [h0]
    refine zst ?_
    exact fin1 (.inl rfl) rfl rfl ⟨by rw [strSz_empty (by omega)], x0.trans x1⟩
  obtain ⟨k, hkl⟩ : ∃ k, u.elems.length = k + 1 := ⟨u.elems.length - 1, by omega⟩
  rw [show ((u.elems.length : Int) == 0) = false from beq_eq_false_iff_ne.2 (by omega)]
  obtain ⟨l', q, rfl, hl', hqk⟩ := last_of (show l.length = k + 1 by omega)
  obtain ⟨hq1, hq2⟩ := hq k q hqk
  have he := List.getElem?_eq_getElem (show k < u.elems.length by omega)
  generalize u.elems[k] = e at he
  obtain ⟨hal, hsc⟩ := ih k e q he hqk
  have hv : (offsI 0 (l' ++ [q]))[k]? = some (upI (strSz 0 l') q.2) := by
    rw [offsI_snoc, List.getElem?_append_right (by rw [offsI_len]; omega), offsI_len, hl', Nat.sub_self]; rfl
  obtain ⟨b, o, rfl, hcell⟩ := hnum k _ hv
  obtain ⟨b', o', a4, c4, rfl, hpb, hc, hte⟩ := ht.next he
  have hki : ((u.elems.length : Int) - 1).toNat = k := by omega
  refine zst ?_
  refine W.regD [(0, .q), (1, .q), (2, .q), (3, .q), (4, .q), (5, .q), (6, .q), (7, .q), (8, .q), (9, .q), (10, .q), (11, .q), (12, .q), (13, .q), (14, .q), (15, .l), (16, .l), (17, .q)] (by kernel_rfl) (by kernel_rfl) rfl ?_
  intro w2 x2 _
  have x12 := x1.trans x2
  have m1 : szb w2 b1 wd mx := k1.ext' x2
  have m2 : tyb w2 b2 u (some ⟨b', o', none⟩) c2 := k2.ext' x2
  refine zsd ?_
  rw [hki]
  refine WD.yld rfl rfl rfl rfl (yld_load_c rfl (x2.cell hcell)) ?_
  refine zsd ?_
  rw [hki]
  refine WD.yld rfl rfl rfl rfl (yld_load_cells (l := tyc e a4 c4) rfl (hc.ext x12)) ?_
  refine zsd ?_
  refine WD.stp rfl rfl rfl rfl (stp_call rfl (hsc a4 c4 w2 p (fun b hb => by have := hp b hb; have := x12.size; omega) (hd.ext x12) (hte.ext x12))) ?_
  rintro _ w3 ⟨rfl, x3⟩
  refine ⟨by first | assumption | exact Ext.rfl' _ | infer_instance, ?_⟩
  refine zsd ?_
  refine WD.stp rfl rfl rfl rfl (stp_call rfl (c_sum (upI (strSz 0 l') q.2) q.1 (upI_ok _ _) hq1 w3)) ?_
  rintro _ _ ⟨rfl, rfl⟩
  refine ⟨by first | assumption | exact Ext.rfl' _ | infer_instance, ?_⟩
  refine zsd ?_
  refine zst ?_
  exact fin1 (.inl rfl) rfl rfl ⟨by rw [strSz_last], x0.trans (x12.trans x3)⟩
end
end Go.Proofs.YtpiegpegjbmlkaaGreatDoor
namespace Go.Kd
theorem run_loadVar_scl {P : Program} {w : World} {t : TypeId} {b i : Nat} {v : Value} [h : Scl P t] (hc : w.cell? ⟨b, i, none⟩ = some v) : (loadVar t ⟨b, i, none⟩).run P w = .ok v w := by
  obtain ⟨D, j, h1, h2, h3, h4⟩ := h.at_
  simp only [loadVar, isAgg]
  cases D <;> first
    | (simp at h2; done)
    | (simp [underlying, program, h1, Sem.run, bind, Sem.bind, pure, load, hc])
/-- a function that puts off a check of its result, a number in a cell -/
theorem W.enterC {P : Program} {k f : Nat} {fn fnf : Go.Func} {c cf : Code} {args : List Value} {w : World} {R : Value → World → Prop} {n m r ty : Nat} [hs : Scl P ty] (hf : P.funcs[k]? = some fn) (hb : fn.body = some c)
    (hn : fn.ntmps = n) (hl : Nat.ble args.length n = true) {e : Env} (he : argO args = some e) (hres : fn.results = #[.cell r ty]) (hff : P.funcs[f]? = some fnf) (hnm : (fnf.name == "runtime.NumGoroutine") = false) (hbf : fnf.body = some cf) (hm : fnf.ntmps = m) (hlm : Nat.ble 1 m = true)
    (hd : ∀ (b : Nat) (w : World) (v : Int), 1 ≤ v → Has w b (.cells #[.int .i64 v] ty) → W P m cf (fin P fnf (Ret fun _ w' => w = w')) [] [(0, .pointer (some ⟨b, 0, none⟩))] w)
    (h : W P n c (fun x D e' w' => (x = .ret ∨ x = .normal) ∧ ∃ b v, D = [{ target := .fn (.func f) #[.pointer (some ⟨b, 0, none⟩)], args := #[] }] ∧ lk e' r = some (.pointer (some ⟨b, 0, none⟩)) ∧ Has w' b (.cells #[.int .i64 v] ty) ∧ 1 ≤ v ∧ R (.int .i64 v) w') [] e w) : Calls P k args.toArray w (Ret R) := by
  refine calls_of_wp_defers hf hb (wp_mono ((argO_eq args e he ▸ h : W P n c _ [] (argE args 0) w).out { tmps := args.toArray ++ Array.replicate (fn.ntmps - args.toArray.size) undef, defers := [] } ⟨by have := Nat.le_of_ble_eq_true hl; simp; omega, rfl, fun i v hi => by
      obtain ⟨_, h2⟩ := argE_lk args 0 i v hi
      simp only [Nat.sub_zero] at h2
      have : i < args.length := (List.getElem?_eq_some_iff.1 h2).1
      rw [Array.getElem?_append_left (by simpa using this)]
      simpa using h2⟩) fun x a' w' hx => ?_)
  have fin : ∀ (a' : Act) D' e' b v, Fr n D' e' a' → D' = [{ target := .fn (.func f) #[.pointer (some ⟨b, 0, none⟩)], args := #[] }] → lk e' r = some (.pointer (some ⟨b, 0, none⟩)) → Has w' b (.cells #[.int .i64 v] ty) → 1 ≤ v → R (.int .i64 v) w' →
      Leaves P fn a'.tmps (Ret R) a'.defers .returning w' := fun a' D' e' b v ha hD hr hc hv hR => by
    rw [ha.defers, hD]
    refine ⟨fun h => (by cases h), .func f, _, f, #[.pointer (some ⟨b, 0, none⟩)], rfl, ?_, ?_⟩
    · have : fnf.body.isNone = false := by rw [hbf]; rfl
      simp only [invoke, callFunc, program, bind, Sem.bind, Sem.run, pure, hff, hnm, this, Bool.false_eq_true, if_false]
      rfl
    · refine CallsD.mono (callsD_of_wp (R := fun e w'' => ∃ v, e = .returned v ∧ w' = w'') hff hbf (wp_mono ((hd b w' v hv hc).out { tmps := #[.pointer (some ⟨b, 0, none⟩)] ++ Array.replicate (fnf.ntmps - 1) undef, defers := [] } ⟨by have := Nat.le_of_ble_eq_true hlm; simp; omega, rfl, fun i u hi => by
        rw [lk_cons] at hi
        split at hi
        · rename_i h0; subst h0; cases hi; rw [Array.getElem?_append_left (by simp)]; rfl
        · cases hi⟩) fun x a2 w2 hx => by
          cases x with
          | normal => obtain ⟨D2, e2, ha2, hD2, vs, hr2, hR2⟩ := hx; exact ⟨by rw [ha2.defers, hD2], _, run_results ha2 hr2, hR2⟩
          | ret => obtain ⟨D2, e2, ha2, hD2, vs, hr2, hR2⟩ := hx; exact ⟨by rw [ha2.defers, hD2], _, run_results ha2 hr2, hR2⟩
          | panic ch => exact hx.elim
          | outgrown => exact hx.elim
          | exit id => obtain ⟨_, _, _, h⟩ := hx; exact h.elim
          | goto l => obtain ⟨_, _, _, h⟩ := hx; exact h.elim)) ?_
      rintro e2 u' w'' ⟨rfl, _, rfl, rfl⟩
      refine ⟨.int .i64 v, run_results (vs := [.int .i64 v]) ha (by rw [hres]; exact .cell hr (run_loadVar_scl (cell_of hc rfl)) .nil), _, rfl, hR⟩
  cases x with
  | normal => obtain ⟨D', e', ha, -, b, v, h1, h2, h3, h4, h5⟩ := hx; exact fin _ D' e' b v ha h1 h2 h3 h4 h5
  | ret => obtain ⟨D', e', ha, -, b, v, h1, h2, h3, h4, h5⟩ := hx; exact fin _ D' e' b v ha h1 h2 h3 h4 h5
  | panic ch => exact hx.elim
  | outgrown => exact hx.elim
  | exit id => obtain ⟨_, _, _, h, _⟩ := hx; rcases h with h | h <;> cases h
  | goto l => obtain ⟨_, _, _, h, _⟩ := hx; rcases h with h | h <;> cases h
/-- a closure's call is put off -/
theorem WU.deferC {P : Program} {n : Nat} {ops : List Oper} {Q : Post} {D : List Deferred} {e : Env} {w : World} {ty : TypeId} {pos : String} {aft : Array Edge} {rest : List Oper} {k : FuncId} {f : Operand} {caps : List Value} {tys : Array TypeId} (hf : ev e f = some (.func (.func k) #[] caps.toArray))
    (hk : WU P n ops Q rest ({ target := .fn (.func k) caps.toArray, args := #[] } :: D) e w) : WU P n ops Q (⟨none, .defer ⟨.value f, #[], tys⟩, ty, pos, aft, none⟩ :: rest) D e w := ⟨fun a hfa => by
  unfold wpList
  rw [wn_spec (r := true) rfl hfa, if_pos rfl]
  left
  have h1 : a.eval f = .func (.func k) #[] caps.toArray := hfa.ag _ _ hf
  have he : (execOp a.eval ⟨none, .defer ⟨.value f, #[], tys⟩, ty, pos, aft, none⟩).run P w = .ok (.defer { target := .fn (.func k) caps.toArray, args := #[] }) w := by
    simp only [execOp, resolve, h1, Deferred.ofValue, Sem.run_bind, Sem.run_pure, Result.andThen_ok, List.map_toArray, List.map_nil, Array.empty_append]
  unfold Oper.wp
  rw [he]
  exact hk.out _ ⟨hfa.size, by show _ :: a.defers = _; rw [hfa.defers], hfa.get⟩⟩
end Go.Kd
namespace Go.Proofs.YtpiegpegjbmlkaaGreatDoor
open Go Go.Kd
set_option maxRecDepth 100000

section
variable {K : Cfg} {s : Gs} {w0 w : World} {pb b : Nat} {wd mx : Int} {v : Value} {t y : Ty}
theorem c_NumFlds (b : Nat) (fa : Option Addr) (n fc : Nat) (x : Value) (w : World) (h : Has w b (.cells #[.slice fa n fc, x] 98)) : Calls Tryz.prog 53 #[pt b] w (Ret fun r w' => r = .int .i64 n ∧ w = w') := by
  refine W.enter (args := [pt b]) Tryz.func53 rfl Tryz.ntmps53 rfl rfl ?_
  refine zst ?_
  exact fin1 (.inl rfl) rfl rfl ⟨rfl, rfl⟩
set_option maxHeartbeats 2000000 in
theorem sz_str (h : StC K s w0 pb wd mx) (x : Ext w0 w) {es : List Ty} {fa : Option Addr} {fc : Nat} {tv : Value} {vb : Nat → Nat} {vv : Nat → Value} (hf : FldsV K s w0 w fa es vb vv) (hlen : es.length ≤ 1073741824) {l : List (Int × Int)} (hl : l.length = es.length) (hq : ∀ (i : Nat) q, l[i]? = some q → okS q.1 ∧ okA q.2)
    (ih : ∀ (i : Nat) e q, es[i]? = some e → l[i]? = some q → SzG K s w0 pb e q.1 ∧ AlG K s w0 pb e q.2) (hb : Has w0 b (.cells #[.slice fa es.length fc, tv] 98)) : SzX pb v (.iface 75 (pt b)) (strSz 0 l) w w := by
  have hb1 := hb.ext' x
  refine ⟨_, _, rfl, ?_⟩
  refine zst ?_
  refine WU.stp rfl rfl rfl (stp_call rfl (c_NumFlds b fa es.length fc tv w hb1)) ?_
  rintro _ _ ⟨rfl, rfl⟩
  refine zst ?_
  by_cases h0 : es.length = 0
  · rw [h0]
    refine zst ?_
    exact fin1 (.inl rfl) rfl rfl ⟨⟨_, rfl, by rw [strSz_empty (by omega)]; exact alk_self (by omega) (by omega)⟩, Ext.rfl' _⟩
  rw [show ((es.length : Int) == 0) = false from beq_eq_false_iff_ne.2 (by omega)]
  obtain ⟨k, hkl⟩ : ∃ k, es.length = k + 1 := ⟨es.length - 1, by omega⟩
  obtain ⟨l', q, rfl, hl', hqk⟩ := last_of (show l.length = k + 1 by omega)
  obtain ⟨hq1, hq2⟩ := hq k q hqk
  have hq1' : -1 ≤ q.1 ∧ q.1 ≤ 9223372036854775807 := hq1
  have he := List.getElem?_eq_getElem (show k < es.length by omega)
  generalize es[k] = e at he
  obtain ⟨iS, iA⟩ := ih k e q he hqk
  have hU : -1 ≤ upI (strSz 0 l') q.2 ∧ upI (strSz 0 l') q.2 ≤ 9223372036854775807 := upI_ok (strSz 0 l') q.2
  refine zst ?_
  refine WU.stp rfl rfl rfl (stp_call rfl (c_gOffsetsof h x hf hlen hl hq ih)) ?_
  rintro _ w1 ⟨⟨gb, zs, rfl, hzl, hzc, hza⟩, x1⟩
  have hb2 := hb1.ext' x1
  have hki : ((es.length : Int) - 1).toNat = k := by omega
  have hz0 := List.getElem?_eq_getElem (show k < zs.length by omega)
  generalize zs[k] = z at hz0
  have hz : alk z (upI (strSz 0 l') q.2) := by
    refine hza k z _ (by omega) hz0 ?_
    rw [offsI_snoc, List.getElem?_append_right (by rw [offsI_len]; omega), offsI_len, hl', Nat.sub_self]; rfl
  obtain ⟨hz1, hz2, hz3⟩ := hz
  have hcell : w1.cell? ⟨gb, 0 + k * 1, none⟩ = some (.int .i64 z) := by
    rw [show 0 + k * 1 = k by omega]
    exact cell_of hzc (by simp [hz0])
  obtain ⟨fb, rfl, hfc⟩ := hf.cell k (by omega)
  obtain ⟨hrt, pk, kd, em, hvv⟩ := hf.fld k e he
  have hv1 := hvv.ext' (x.trans x1)
  refine zst ?_
  rw [hki]
  refine WU.yld rfl rfl rfl (yld_load_c rfl hcell) ?_
  refine zst ?_
  rw [hki]
  refine WU.yld rfl rfl rfl (yld_load_c rfl (x1.cell hfc)) ?_
  refine zst ?_
  refine WU.stp rfl rfl rfl (stp_call rfl (iS (vv k) w1 hrt (x.trans x1))) ?_
  rintro _ w2 ⟨⟨sz, rfl, hs1, hs2, hs3⟩, x2⟩
  refine zst ?_
  have neg : z < 0 ∨ sz < 0 → alk (-1) (strSz 0 (l' ++ [q])) := fun h => by
    rw [strSz_last, sumI_neg (by unfold alikeS at hz1 hs1; omega)]
    exact alk_neg (by decide)
  by_cases hn : z < 0
  · rw [decide_eq_true hn]
    refine zst ?_
    exact fin1 (.inl rfl) rfl rfl ⟨⟨_, rfl, neg (.inl hn)⟩, x1.trans x2⟩
  rw [decide_eq_false hn]
  refine zst ?_
  by_cases hn2 : sz < 0
  · rw [decide_eq_true hn2]
    refine zst ?_
    exact fin1 (.inl rfl) rfl rfl ⟨⟨_, rfl, neg (.inr hn2)⟩, x1.trans x2⟩
  rw [decide_eq_false hn2]
  refine zst ?_
  refine WU.yld rfl rfl rfl (yld_add rfl rfl) ?_
  refine zst ?_
  refine fin1 (.inl rfl) rfl rfl ⟨⟨_, rfl, ?_⟩, x1.trans x2⟩
  have h1 : z = upI (strSz 0 l') q.2 := by unfold alikeS at hz1; omega
  have h2 : sz = q.1 := by unfold alikeS at hs1; omega
  rw [strSz_last, ← h1, ← h2]
  have := wr_range (z + sz)
  exact ⟨sum_alike ⟨by omega, hz2⟩ ⟨by omega, hs2⟩, this.2, this.1⟩
end
end Go.Proofs.YtpiegpegjbmlkaaGreatDoor
namespace Go.Proofs.YtpiegpegjbmlkaaGreatDoor
open Go Go.Kd
set_option maxRecDepth 100000

theorem c_tnName {w : World} {b : Nat} {pk : Value} {nm : ByteArray} {v : Value} (h : TnV w b pk nm v) : Calls Tryz.prog 99 #[pt b] w (Ret fun r w' => r = .string nm ∧ w = w') := by
  have h' : Has w b (.cells #[.int .i64 0, pk, .string nm, v] tTN) := h
  refine W.enter (args := [pt b]) Tryz.func99 rfl Tryz.ntmps99 rfl rfl ?_
  refine zst ?_
  exact fin1 (.inl rfl) rfl rfl ⟨rfl, rfl⟩
theorem c_tnPkg {w : World} {b : Nat} {pk : Value} {nm : ByteArray} {v : Value} (h : TnV w b pk nm v) : Calls Tryz.prog 100 #[pt b] w (Ret fun r w' => r = pk ∧ w = w') := by
  have h' : Has w b (.cells #[.int .i64 0, pk, .string nm, v] tTN) := h
  refine W.enter (args := [pt b]) Tryz.func100 rfl Tryz.ntmps100 rfl rfl ?_
  refine zst ?_
  exact fin1 (.inl rfl) rfl rfl ⟨rfl, rfl⟩
theorem c_Path {w : World} {b : Nat} {nm : ByteArray} {v : Value} (h : Has w b (.cells #[.string nm, v] tPK)) : Calls Tryz.prog 101 #[pt b] w (Ret fun r w' => r = .string nm ∧ w = w') := by
  refine W.enter (args := [pt b]) Tryz.func101 rfl Tryz.ntmps101 rfl rfl ?_
  refine zst ?_
  exact fin1 (.inl rfl) rfl rfl ⟨rfl, rfl⟩
theorem c_nmObj {w : World} {b : Nat} {obj u ms : Value} (h : NamV w b obj u ms) : Calls Tryz.prog 98 #[pt b] w (Ret fun r w' => r = obj ∧ w = w') := by
  have h' : Has w b (.cells (nmc obj false 0 15 u u ms) tNM) := h
  refine W.enter (args := [pt b]) Tryz.func98 rfl Tryz.ntmps98 rfl rfl ?_
  refine zst ?_
  exact fin1 (.inl rfl) rfl rfl ⟨rfl, rfl⟩
/-- what asNamed answers -/
theorem c_asNm {K : Cfg} {s : Gs} {w : World} {v : Value} {t : Ty} (ic : IC K s w) (hv : RT K s w s.sl v t) (hg : Good K.D t) :
    Calls Tryz.prog 97 #[v] w (Ret fun r w' => (r = .pointer none ∨ ∃ b ob u ms pk nm T, r = pt b ∧ NamV w b (pt ob) u ms ∧ TnV w ob pk nm T ∧ (pk = .pointer none ∨ ∃ c x n, pk = pt c ∧ Has w c (.cells #[.string (pth n), .string x] tPK))) ∧ w = w') := by
  refine W.enter (args := [v]) Tryz.func97 rfl Tryz.ntmps97 rfl rfl ?_
  refine zst ?_
  refine WU.stp rfl rfl rfl (stp_call rfl (c_gUnalias ic.ok.sh ic.dc ic.er hv (rdy_of hg))) ?_
  rintro r _ ⟨rfl, y, k1, k2, k3, k4, k5⟩
  by_cases hk : y.kind = 1
  · obtain ⟨h0, h1, h2⟩ := k5 hk
    have hel := List.getElem?_eq_getElem h1
    obtain ⟨b, ob, T, ub, ms, y', rfl, q1, q2, q3, _⟩ := ic.dc.def_ hel h2 (by rw [← isAl_n hk hel]; exact k2) (k1.nam hk)
    obtain ⟨c, z, hc, hcc⟩ := ic.pkg _ (ic.vd.pkg _ _ hel)
    refine zst ?_
    exact fin1 (.inl rfl) rfl rfl ⟨.inr ⟨b, ob, _, ms, _, _, _, rfl, q3, q2, .inr ⟨c, z, _, hc, hcc⟩⟩, rfl⟩
  · by_cases hye : y.kind = 0 ∧ y.n = 20
    · obtain ⟨b2, ob2, u, ms, nm, q1, _, q3, q4, _⟩ := ic.er
      obtain rfl := (k1.err hye.1 hye.2).trans q1
      refine zst ?_
      exact fin1 (.inl rfl) rfl rfl ⟨.inr ⟨b2, ob2, _, ms, _, _, _, rfl, q4, q3, .inl rfl⟩, rfl⟩
    · obtain ⟨b2, rfl, _⟩ := k1.lit ⟨hk, hye⟩
      have hT := (dynT_lit y).ne.2.1
      generalize dynT y = T at hT
      refine zst ?_
      exact fin1 (.inl rfl) rfl rfl ⟨.inl rfl, rfl⟩
theorem pth_no (n : Int) : ((pth n).toList == ({ data := #[115, 121, 110, 99, 47, 97, 116, 111, 109, 105, 99] } : ByteArray).toList) = false ∧ ((pth n).toList == ({ data := #[105, 110, 116, 101, 114, 110, 97, 108, 47, 114, 117, 110, 116, 105, 109, 101, 47, 97, 116, 111, 109, 105, 99] } : ByteArray).toList) = false := by
  simp only [Lib.toList_data]
  unfold pth
  split <;> exact ⟨rfl, rfl⟩
set_option maxHeartbeats 1000000 in
theorem c_isSync {K : Cfg} {s : Gs} {w : World} {v : Value} {t : Ty} (ic : IC K s w) (hv : RT K s w s.sl v t) (hg : Good K.D t) : Calls Tryz.prog 70 #[v] w (Ret fun r w' => r = .bool false ∧ w = w') := by
  refine W.enter (args := [v]) Tryz.func70 rfl Tryz.ntmps70 rfl rfl ?_
  refine zst ?_
  refine WU.stp rfl rfl rfl (stp_call rfl (c_asNm ic hv hg)) ?_
  rintro _ _ ⟨hr, rfl⟩
  rcases hr with rfl | ⟨b, ob, u, ms, pk, nm, T, rfl, hn, ht, hpk⟩
  · refine zst ?_
    exact fin1 (.inl rfl) rfl rfl ⟨rfl, rfl⟩
  refine zst ?_
  refine WU.stp rfl rfl rfl (stp_call rfl (c_nmObj hn)) ?_
  rintro _ _ ⟨rfl, rfl⟩
  have ht' : Has w ob (.cells #[.int .i64 0, pk, .string nm, T] tTN) := ht
  refine zst ?_
  refine WU.stp rfl rfl rfl (stp_call rfl (c_tnName ht)) ?_
  rintro _ _ ⟨rfl, rfl⟩
  refine zst ?_
  generalize (nm.toList == _) = q
  cases q
  · refine zst ?_
    exact fin1 (.inl rfl) rfl rfl ⟨rfl, rfl⟩
  refine zst ?_
  refine WU.stp rfl rfl rfl (stp_call rfl (c_tnPkg ht)) ?_
  rintro _ _ ⟨rfl, rfl⟩
  rcases hpk with rfl | ⟨c, x, n, rfl, hc⟩
  · refine zst ?_
    exact fin1 (.inl rfl) rfl rfl ⟨rfl, rfl⟩
  refine zst ?_
  refine WU.stp rfl rfl rfl (stp_call rfl (c_tnPkg ht)) ?_
  rintro _ _ ⟨rfl, rfl⟩
  refine WU.stp rfl rfl rfl (stp_call rfl (c_Path hc)) ?_
  rintro _ _ ⟨rfl, rfl⟩
  refine zst ?_
  rw [(pth_no n).1]
  refine zst ?_
  refine WU.stp rfl rfl rfl (stp_call rfl (c_tnPkg ht)) ?_
  rintro _ _ ⟨rfl, rfl⟩
  refine WU.stp rfl rfl rfl (stp_call rfl (c_Path hc)) ?_
  rintro _ _ ⟨rfl, rfl⟩
  refine zst ?_
  rw [(pth_no n).2]
  refine zst ?_
  exact fin1 (.inl rfl) rfl rfl ⟨rfl, rfl⟩
theorem c_Info (b : Nat) (n i : Int) (nb : ByteArray) (w : World) (h : Has w b (.cells #[.int .i64 n, .int .i64 i, .string nb] 139)) : Calls Tryz.prog 72 #[pt b] w (Ret fun r w' => r = .int .i64 i ∧ w = w') := by
  refine W.enter (args := [pt b]) Tryz.func72 rfl Tryz.ntmps72 rfl rfl ?_
  refine zst ?_
  exact fin1 (.inl rfl) rfl rfl ⟨rfl, rfl⟩
end Go.Proofs.YtpiegpegjbmlkaaGreatDoor
namespace Go.Proofs.YtpiegpegjbmlkaaGreatDoor
open Go Go.Kd Go.ChangeShapes Go.WideShapes
set_option maxRecDepth 100000

inductive Rng : Ty → Prop
  | mk (t : Ty) : t.n ≤ 9223372036854775807 → (∀ (i : Nat) e, t.elems[i]? = some e → Rng e) → Rng t
theorem Rng.n {t : Ty} (h : Rng t) : t.n ≤ 9223372036854775807 := by cases h; assumption
theorem Rng.el {t : Ty} (h : Rng t) : ∀ (i : Nat) e, t.elems[i]? = some e → Rng e := by cases h; assumption
def RngD (D : List De) : Prop := ∀ e ∈ D, Rng e.ty
theorem rng_setN {t : Ty} (h : Rng t) {m : Int} (hm : m ≤ 9223372036854775807) : Rng (t.setN m) := by
  obtain ⟨k, n, c, v, es, s, g, e⟩ := t
  exact .mk _ hm fun i e he => h.el i e he
theorem rng_any : Rng anyT := .mk _ (by decide) fun i e he => by simp [anyT, Ty.elems] at he
theorem rng_norm {t : Ty} (h : Rng t) : Rng (norm t) := by
  unfold norm
  split
  · split
    · exact rng_setN h (by decide)
    split
    · exact rng_setN h (by decide)
    split
    · exact rng_any
    · exact h
  · exact h
theorem rng_err : Rng errT := .mk _ (by decide) fun i e he => by
  match i with
  | 0 =>
    simp [errT, Ty.elems] at he
    subst he
    refine .mk _ (by decide) fun i e he => ?_
    match i with
    | 0 =>
      simp [Ty.elems] at he
      subst he
      exact .mk _ (by decide) fun i e he => by simp [Ty.elems] at he
    | i + 1 => simp [Ty.elems] at he
  | i + 1 => simp [errT, Ty.elems] at he
theorem rng_under {D : List De} (hD : OkD D) (hR : RngD D) {t : Ty} (hG : Good D t) (h : Rng t) : Rng (underT D t) := by
  obtain ⟨i, v, hi, hs⟩ := hG.sh
  have key : ∀ b, Rng b → Rng (errN (norm b)) := fun b hb => by
    unfold errN
    split
    · exact rng_err
    · exact rng_norm hb
  rcases under_cases hD.sh hi hs with ⟨_, _, h1⟩ | ⟨j, e, _, _, _, he, _, h1⟩
  · rw [h1]; exact key t h
  · rw [h1]; exact key _ (hR e (List.mem_of_getElem? he))
section
variable {H : Type} {enc : TypeId × Value → H} {W : World} {sp : Nat → Bool} {held : Bool}
theorem cells_inj {b o : Nat} {l k : List Value} (h : Cells W b o l) (h' : Cells W b o k) (hl : l.length = k.length) : l = k := by
  refine lists_eq l k hl fun i x y hx hy => ?_
  have := (h i x hx).symm.trans (h' i y hy)
  exact Option.some.inj this
theorem tyl_len {w : World} {p : Nat → Prop} {cs : List Value} {t : Ty} (h : TyV w p cs t) : cs.length = 8 := by cases h; rfl
theorem rng_open : ∀ (fuel : Nat) (cs : List Value) (x : DataW H × List MemPlace), DataW.trod enc Tryz.prog W 0 sp held fuel 26 cs = some x → ∀ (p : Nat → Prop) (t : Ty), TyV W p cs t → Rng t := by
  intro fuel
  induction fuel using Nat.strongRecOn with
  | ind fuel ih =>
    intro cs x h p t ht
    obtain ⟨xs, n, rfl, rfl, hl, hlen, hf⟩ := DataW.trod_struct Tryz.underlying26 h
    rw [cT] at hl
    cases ht with
    | mk k m c vr es nm tg em a cp f hR hsl hcp =>
    obtain ⟨x0, x1, x2, x3, x4, x5, x6, x7, rfl⟩ := list8 (l := xs) hlen
    have h1 : DataW.trod enc Tryz.prog W 0 sp held n 3 [.int .i64 m] = some x1 := by
      have h := hf 1 _ rfl
      change DataW.trod enc Tryz.prog W 0 sp held n 3 (List.take (Tryz.prog.cellsOf 3) (List.drop 1 [_, .int .i64 m, _, _, _, _, _, _])) = some x1 at h
      rw [cI] at h
      exact h
    have h4 : DataW.trod enc Tryz.prog W 0 sp held n 24 [.slice a es.length cp] = some x4 := by
      have h := hf 4 _ rfl
      change DataW.trod enc Tryz.prog W 0 sp held n 24 (List.take (Tryz.prog.cellsOf 24) (List.drop 4 [_, _, _, _, .slice a es.length cp, _, _, _])) = some x4 at h
      rw [cLT] at h
      exact h
    obtain ⟨m', e1, rfl, hwf⟩ := DataW.trod_int Tryz.underlying3 h1
    have := one e1
    cases this
    refine .mk _ ?_ fun i e he => ?_
    · show m ≤ _
      simp [Lit.wf, IntKind.min, IntKind.max, IntKind.signed, IntKind.bits] at hwf
      omega
    · have he : es[i]? = some e := he
      have hi := (List.getElem?_eq_some_iff.1 he).1
      rcases DataW.trod_slice Tryz.underlying24 h4 with ⟨g1, rfl⟩ | ⟨a0, len, cap, elems, rest, n', rfl, g1, rfl, _, hlc, _, hle, hel, _⟩
      · simp at g1
        omega
      · simp only [List.cons.injEq, Value.slice.injEq, and_true] at g1
        obtain ⟨rfl, rfl, rfl⟩ := g1
        rw [cT] at hel
        have h2 := hel i hi
        rw [List.getElem?_eq_getElem (by omega), Option.bind_eq_some_iff] at h2
        obtain ⟨cs, h3, h5⟩ := h2
        obtain ⟨b, o, hab, _, hc⟩ := hsl i hi
        simp only [Option.some.injEq] at hab
        subst hab
        obtain ⟨k1, k2⟩ := cells_open rfl h3
        have hcs : cs = f i := cells_inj k1 hc (by rw [k2, tyl_len (hR i e he)])
        subst hcs
        exact ih n' (by omega) _ _ h5 p e (hR i e he)
theorem rngT_of {d : DataW H} {ps : List MemPlace} {p : Nat → Prop} {t : Ty} {a : Option Addr} {c : Nat} (h : DataW.Trod enc Tryz.prog W 0 sp held 26 (.agg (tyc t a c).toArray) d ps) (ht : TysV W p a c t.elems) : Rng t := by
  obtain ⟨fuel, hf⟩ := h
  exact rng_open fuel (tyc t a c) _ hf p t (.of_tys ht)
theorem rngDe (fuel : Nat) (cs : List Value) (x : DataW H × List MemPlace) (h : DataW.trod enc Tryz.prog W 0 sp held fuel 51 cs = some x) {p : Nat → Prop} {e : De} (he : DeV W p cs e) : Rng e.ty := by
  obtain ⟨xs, n, rfl, rfl, hl, hlen, hf⟩ := DataW.trod_struct Tryz.underlying51 h
  obtain ⟨ts, a, cp, f, rfl, hts, _⟩ := he
  have h8 := tyl_len hts
  obtain ⟨t0, t1, t2, t3, t4, t5, t6, t7, rfl⟩ := list8 h8
  match xs, hlen with
  | [x0, x1, x2, x3, x4], _ =>
    have h3 : DataW.trod enc Tryz.prog W 0 sp held n 26 [t0, t1, t2, t3, t4, t5, t6, t7] = some x3 := by
      have h := hf 3 _ rfl
      change DataW.trod enc Tryz.prog W 0 sp held n 26 (List.take (Tryz.prog.cellsOf 26) [t0, t1, t2, t3, t4, t5, t6, t7, _]) = some x3 at h
      rw [cT] at h
      exact h
    exact rng_open n _ _ h3 p e.ty hts
theorem dev_len {p : Nat → Prop} {cs : List Value} {e : De} (h : DeV W p cs e) : cs.length = 12 := by
  obtain ⟨ts, a, cp, f, rfl, hts, _⟩ := h
  have := tyl_len hts
  simp [this]
theorem rngD_of {d : DataW H} {ps : List MemPlace} {p : Nat → Prop} {D : List De} {a : Option Addr} {cp : Nat} (h : DataW.Trod enc Tryz.prog W 0 sp held 22 (.slice a D.length cp) d ps) (hd : DsV W p (.slice a D.length cp) D) : RngD D := by
  obtain ⟨fuel, hf⟩ := h
  have hf : DataW.trod enc Tryz.prog W 0 sp held fuel 22 [.slice a D.length cp] = some (d, ps) := hf
  obtain ⟨a', cp', f, h0, h1, h2⟩ := hd
  cases h0
  intro e he
  obtain ⟨i, hi⟩ := List.getElem?_of_mem he
  have hlt := (List.getElem?_eq_some_iff.1 hi).1
  rcases DataW.trod_slice Tryz.underlying22 hf with ⟨g1, _⟩ | ⟨a0, len, cap, elems, rest, n', _, g1, _, _, hlc, _, hle, hel, _⟩
  · simp at g1
    rw [g1.2.1] at hlt
    simp at hlt
  · simp only [List.cons.injEq, Value.slice.injEq, and_true] at g1
    obtain ⟨rfl, rfl, rfl⟩ := g1
    rw [cD] at hel
    have h3 := hel i hlt
    rw [List.getElem?_eq_getElem (by omega), Option.bind_eq_some_iff] at h3
    obtain ⟨cs, h4, h5⟩ := h3
    obtain ⟨b, o, hab, _, hc⟩ := h1 i hlt
    simp only [Option.some.injEq] at hab
    subst hab
    obtain ⟨k1, k2⟩ := cells_open rfl h4
    have hcs : cs = f i := cells_inj k1 hc (by rw [k2, dev_len (h2 i e hi)])
    subst hcs
    exact rngDe n' _ _ h5 (h2 i e hi)
end
/-- the specification's size and alignment of a type -/
theorem c_SzAl {D : List De} (hD : OkD D) (a : Option Addr) (cp : Nat) {wd mx : Int} (hW : OkW wd mx) {t : Ty} {s al : Int} (h : Sz D wd mx t s al) : Good D t → RngD D → Rng t → SzC D a cp wd mx t s ∧ AlC D a cp wd mx t al := by
  induction h with
  | basic t hk =>
    intro hG _ _
    have hn := under_n0 hD hG hk
    exact ⟨SzT.enter hD hG (.basic hW.wd hk hn.1 hn.2), AlT.enter hD hG (.basic hW.wd hk hn.1 hn.2)⟩
  | slice t hk => exact fun hG _ _ => ⟨SzT.enter hD hG (.slice hW.wd hk), AlT.enter hD hG (.multi (.inl hk))⟩
  | iface t hk => exact fun hG _ _ => ⟨SzT.enter hD hG (.iface hW.wd hk), AlT.enter hD hG (.multi (.inr hk))⟩
  | word t hk => exact fun hG _ _ => ⟨SzT.enter hD hG (.word hk), AlT.enter hD hG (.word hk)⟩
  | arr t e s al hk he hz ih =>
    intro hG hRD hR
    have hu := hG.under hD
    have he0 : (underT D t).elems[0]? = some e := by rw [he]; rfl
    have hRu := rng_under hD hRD hG hR
    have hi := ih (hu.el he0) hRD (hRu.el 0 e he0)
    have ok := hz.ok hW
    have hn : 0 ≤ (underT D t).n := by
      obtain ⟨_, _, _, hs⟩ := hu.sh
      exact hs.shape.n0 (by rw [hk]; simp [limitN])
    refine ⟨SzT.enter hD hG (.arr hk ⟨hn, hRu.n⟩ he ok.1 ok.2 hi.2 hi.1), AlT.enter hD hG ?_⟩
    have hm : maxA 1 [(s, al)] = al := by
      have := ok.2
      unfold okA at this
      show max 1 al = al
      omega
    rw [← hm]
    exact .all (.inl hk) (by rw [he]; simp) (by rw [he]; rfl) fun i e' q he' hq => by
      match i with
      | 0 =>
        rw [he] at he'
        simp at he' hq
        subst he'
        subst hq
        exact hi.2
      | i + 1 => simp at hq
  | str t l hk hl hz ih =>
    intro hG hRD hR
    have hu := hG.under hD
    have hlen := wt_len (underT D t)
    have hwt := hu.wt
    have hRu := rng_under hD hRD hG hR
    have hi : ∀ (i : Nat) e q, (underT D t).elems[i]? = some e → l[i]? = some q → AlC D a cp wd mx e q.2 ∧ SzC D a cp wd mx e q.1 := fun i e q he hq => (ih i e q he hq (hu.el he) hRD (hRu.el i e he)).symm
    have hq : ∀ (i : Nat) q, l[i]? = some q → okS q.1 ∧ okA q.2 := fun i q hq => by
      have hlt := (List.getElem?_eq_some_iff.1 hq).1
      exact (hz i _ q (List.getElem?_eq_getElem (by omega)) hq).ok hW
    exact ⟨SzT.enter hD hG (.str hk (by omega) hl hq hi), AlT.enter hD hG (.all (.inr hk) (by omega) hl fun i e q he hq => (hi i e q he hq).1)⟩
end Go.Proofs.YtpiegpegjbmlkaaGreatDoor
namespace Go.Proofs.YtpiegpegjbmlkaaGreatDoor
open Go Go.Kd
set_option maxRecDepth 100000

abbrev dfr (rb : Nat) : List Deferred := [{ target := .fn (.func 68) #[pt rb], args := #[] }]
/-- what holds when Alignof's body ends -/
def AlQ (al : Int) (wI : World) : Post := fun x D e' w' => (x = .ret ∨ x = .normal) ∧ ∃ b v, D = dfr b ∧ lk e' 4 = some (pt b) ∧ Has w' b (.cells #[.int .i64 v] 2) ∧ 1 ≤ v ∧ Value.int .i64 v = .int .i64 al ∧ Ext wI w'
theorem AlQ.fin {al : Int} {wI w : World} {rb : Nat} {e' : Env} {x : Exit} (hx : x = .ret ∨ x = .normal) (hl : lk e' 4 = some (pt rb)) (hb : Has w rb (.cells #[.int .i64 al] 2)) (h1 : 1 ≤ al) (xx : Ext wI w) : AlQ al wI x (dfr rb) e' w := ⟨hx, rb, al, rfl, hl, hb, h1, rfl, xx⟩
section
variable {K : Cfg} {s : Gs} {w0 w wI : World} {pb rb b : Nat} {wd mx : Int} {v : Value} {t y : Ty}
/-- behind the look at what underlies the type -/
def AlX (pb rb : Nat) (v u : Value) (al : Int) (wI w : World) : Prop := ∃ c1 c2, splitB (bodyA Tryz.f43) = some (c1, c2) ∧ W Tryz.prog 116 c1 (thn (W Tryz.prog 116 c2 (AlQ al wI)) (AlQ al wI)) (dfr rb) [(0, pt pb), (1, v), (4, pt rb), (17, u)] w
/-- the part behind the switch -/
def AlE (pb rb : Nat) (v : Value) (al : Int) (wI w : World) : Prop := ∃ c1 c2, splitB (bodyA Tryz.f43) = some (c1, c2) ∧ W Tryz.prog 116 c2 (AlQ al wI) (dfr rb) [(0, pt pb), (1, v), (4, pt rb)] w
theorem AlE.use {al : Int} {e' : Env} {c1 c2 : Code} (h : AlE pb rb v al wI w) (hb : splitB (bodyA Tryz.f43) = some (c1, c2)) (hs : subs e' [(0, pt pb), (1, v), (4, pt rb)]) : W Tryz.prog 116 c2 (AlQ al wI) (dfr rb) e' w := by
  obtain ⟨d1, d2, h1, h2⟩ := h
  cases h1.symm.trans hb
  exact h2.sub (sub_of hs)
theorem al_end (h : StC K s w0 pb wd mx) (x : Ext w0 w) (xI : Ext wI w) (x0I : wI.heap.size ≤ rb) (hr : Has w rb (.cells #[.int .i64 0] 2)) (hv : RT K s w0 s.sl v t) (hg : Good K.D t) {sz : Int} (is : SzG K s w0 pb t sz) (h1 : 1 ≤ sz ∧ sz ≤ 16) (h2 : (underT K.D t).kind = 0 ∧ ((underT K.D t).n = 14 ∨ (underT K.D t).n = 15) → 2 ≤ sz) :
    AlE pb rb v (min (if (underT K.D t).kind = 0 ∧ ((underT K.D t).n = 14 ∨ (underT K.D t).n = 15) then sz / 2 else sz) mx) wI w := by
  have hmx := h.ok.mx
  refine ⟨_, _, rfl, ?_⟩
  refine zst ?_
  refine WU.stp rfl rfl rfl (stp_call rfl (is v w hv x)) ?_
  rintro _ w1 ⟨⟨z, rfl, hz, _⟩, x1⟩
  obtain rfl : z = sz := by unfold alikeS at hz; omega
  have hr1 := hr.ext' x1
  have hp1 := h.has.ext' (x.trans x1)
  refine zst ?_
  rw [decide_eq_false (show ¬ z < 1 by omega)]
  refine zst ?_
  refine WU.stp rfl rfl rfl (stp_call rfl (c_isComplexG h.ic h.sl (x.trans x1) hg hv)) ?_
  rintro _ _ ⟨rfl, rfl⟩
  by_cases hc : (underT K.D t).kind = 0 ∧ ((underT K.D t).n = 14 ∨ (underT K.D t).n = 15)
  · rw [if_pos hc, show ((underT K.D t).kind == 0 && ((underT K.D t).n == 14 || (underT K.D t).n == 15)) = true by simpa using hc]
    have hz2 := h2 hc
    refine zst ?_
    refine WU.yld rfl rfl rfl (yld_quo_pos rfl rfl (by omega) (by omega) (by omega)) ?_
    refine zst ?_
    by_cases hm : z / 2 > mx
    · rw [decide_eq_true hm]
      refine zst ?_
      refine WU.stp0 rfl rfl (stp_store_cell rfl rfl rfl rfl) ?_
      rintro _ w2 u2
      refine zst ?_
      rw [show min (z / 2) mx = mx by omega]
      exact .fin (.inl rfl) rfl u2.has (by omega) (u2.ext (xI.trans x1) x0I)
    · rw [decide_eq_false hm]
      refine zst ?_
      refine WU.stp0 rfl rfl (stp_store_cell rfl rfl rfl rfl) ?_
      rintro _ w2 u2
      refine zst ?_
      rw [show min (z / 2) mx = z / 2 by omega]
      exact .fin (.inl rfl) rfl u2.has (by omega) (u2.ext (xI.trans x1) x0I)
  · rw [if_neg hc, show ((underT K.D t).kind == 0 && ((underT K.D t).n == 14 || (underT K.D t).n == 15)) = false by
      rw [Bool.eq_false_iff]; simpa using hc]
    refine zst ?_
    by_cases hm : z > mx
    · rw [decide_eq_true hm]
      refine zst ?_
      refine WU.stp0 rfl rfl (stp_store_cell rfl rfl rfl rfl) ?_
      rintro _ w2 u2
      refine zst ?_
      rw [show min (z) mx = mx by omega]
      exact .fin (.inl rfl) rfl u2.has (by omega) (u2.ext (xI.trans x1) x0I)
    · rw [decide_eq_false hm]
      refine zst ?_
      refine WU.stp0 rfl rfl (stp_store_cell rfl rfl rfl rfl) ?_
      rintro _ w2 u2
      refine zst ?_
      rw [show min (z) mx = z by omega]
      exact .fin (.inl rfl) rfl u2.has (by omega) (u2.ext (xI.trans x1) x0I)
theorem al_basic (h : StC K s w0 pb wd mx) (x : Ext w0 w) (xI : Ext wI w) (x0I : wI.heap.size ≤ rb) (hr : Has w rb (.cells #[.int .i64 0] 2)) {n : Int} {nb : ByteArray} {al : Int} (h0 : 0 ≤ n) (h1 : n < 20) (hb : Has w0 b (.cells #[.int .i64 (bk n), .int .i64 (infK (bk n)), .string nb] 139)) (h16 : n = 16 → al = wd)
    (he : n ≠ 16 → AlE pb rb v al wI w) : AlX pb rb v (.iface 109 (pt b)) al wI w := by
  have hb1 := hb.ext' x
  have hp1 := h.has.ext' x
  have hw := h.ok.wd
  refine ⟨_, _, rfl, ?_⟩
  refine zst ?_
  refine WU.stp rfl rfl rfl (stp_call rfl (c_Info b _ _ nb w hb1)) ?_
  rintro _ _ ⟨rfl, rfl⟩
  refine WU.yld rfl rfl rfl (yld_and rfl rfl) ?_
  refine zst ?_
  rw [and32 h0 h1]
  by_cases hn : n = 16
  · rw [show (n == 16) = true by simpa using hn, h16 hn]
    refine zst ?_
    refine WU.stp0 rfl rfl (stp_store_cell rfl rfl rfl rfl) ?_
    rintro _ w2 u2
    refine zst ?_
    exact .fin (.inl rfl) rfl u2.has (by omega) (u2.ext xI x0I)
  · rw [show (n == 16) = false by simpa using hn]
    (repeat ((fail_if_success guard_target =~ gW (.seq (.region 30 _ _) _)); (fail_if_success guard_target =~ gW (.seq (.seq (.region 30 _ _) _) _)); refine zs1 ?_))
    exact (he hn).use rfl ⟨rfl, rfl, rfl, trivial⟩
theorem al_word (_ : Ext w0 w) {T : Nat} {al : Int} (hT : T = 128 ∨ T = 189 ∨ T = 191 ∨ T = 134) (he : AlE pb rb v al wI w) : AlX pb rb v (.iface T (pt b)) al wI w := by
  rcases hT with rfl | rfl | rfl | rfl
  all_goals
    refine ⟨_, _, rfl, ?_⟩
    (repeat ((fail_if_success guard_target =~ gW (.seq (.region 30 _ _) _)); (fail_if_success guard_target =~ gW (.seq (.seq (.region 30 _ _) _) _)); refine zs1 ?_))
    exact he.use rfl ⟨rfl, rfl, rfl, trivial⟩
theorem al_multi (h : StC K s w0 pb wd mx) (x : Ext w0 w) (xI : Ext wI w) (x0I : wI.heap.size ≤ rb) (hr : Has w rb (.cells #[.int .i64 0] 2)) (hv : RT K s w0 s.sl v t) (hg : Good K.D t) {T : Nat} (hT : T = 107 ∨ T = 108) : AlX pb rb v (.iface T (pt b)) wd wI w := by
  have hp1 := h.has.ext' x
  have hw := h.ok.wd
  have ic := h.ic.ext x
  rcases hT with rfl | rfl
  all_goals
    refine ⟨_, _, rfl, ?_⟩
    refine zst ?_
    refine WU.stp rfl rfl rfl (stp_call rfl (c_isTypeParam ic.ok.sh ic.dc ic.er (hv.ext x) (rdy_of hg))) ?_
    rintro _ _ ⟨rfl, rfl⟩
    refine zst ?_
    refine WU.stp rfl rfl rfl (stp_call rfl (c_assert w)) ?_
    rintro _ _ rfl
    refine zst ?_
    refine WU.stp0 rfl rfl (stp_store_cell rfl rfl rfl rfl) ?_
    rintro _ w2 u2
    refine zst ?_
    exact .fin (.inl rfl) rfl u2.has (by omega) (u2.ext xI x0I)
theorem al_arr (x : Ext w0 w) (xI : Ext wI w) (x0I : wI.heap.size ≤ rb) (hr : Has w rb (.cells #[.int .i64 0] 2)) {u : Value} {e : Ty} {n al : Int} (hal : okA al) (ia : AlG K s w0 pb e al) (hu : RT K s w0 s.sl u e)
    (hb : Has w0 b (.cells #[.int .i64 n, u] 96)) : AlX pb rb v (.iface 94 (pt b)) al wI w := by
  have hb1 := hb.ext' x
  refine ⟨_, _, rfl, ?_⟩
  refine zst ?_
  refine WU.stp rfl rfl rfl (stp_call rfl (ia u w hu x)) ?_
  rintro _ w1 ⟨rfl, x1⟩
  have hr1 := hr.ext' x1
  refine zst ?_
  refine WU.stp0 rfl rfl (stp_store_cell rfl rfl rfl rfl) ?_
  rintro _ w2 u2
  refine zst ?_
  exact .fin (.inl rfl) rfl u2.has (by unfold okA at hal; omega) (u2.ext (xI.trans x1) x0I)
theorem maxA_one {l : List (Int × Int)} : ∀ {m : Int}, m ≤ maxA m l := by
  induction l with
  | nil => exact fun {m} => Int.le_refl m
  | cons p r ih =>
    intro m
    obtain ⟨a, b⟩ := p
    exact Int.le_trans (by omega) (ih (m := max m b))
set_option maxHeartbeats 2000000 in
theorem al_str (h : StC K s w0 pb wd mx) (x : Ext w0 w) (xI : Ext wI w) (x0I : wI.heap.size ≤ rb) (hr : Has w rb (.cells #[.int .i64 0] 2)) (hv : RT K s w0 s.sl v t) (hg : Good K.D t) {es : List Ty} {fa : Option Addr} {fc : Nat} {tv : Value} {vb : Nat → Nat} {vv : Nat → Value} (hf : FldsV K s w0 w fa es vb vv) (hlen : es.length ≤ 1073741824) {l : List (Int × Int)} (hl : l.length = es.length)
    (ih : ∀ (i : Nat) e q, es[i]? = some e → l[i]? = some q → AlG K s w0 pb e q.2) (hb : Has w0 b (.cells #[.slice fa es.length fc, tv] 98)) : AlX pb rb v (.iface 75 (pt b)) (maxA 1 l) wI w := by
  have hb1 := hb.ext' x
  refine ⟨_, _, rfl, ?_⟩
  (repeat ((fail_if_success guard_target =~ gW (.seq (.region 8 _ _) _)); (fail_if_success guard_target =~ gW (.seq (.seq (.region 8 _ _) _) _)); refine zs1 ?_))
  refine W.cut [(39, .bool false), (6, pt b), (0, pt pb), (4, pt rb)] ?_ ?_
  · refine zst ?_
    by_cases h0 : es.length = 0
    · rw [show ((es.length : Int) == 0) = true by simpa using h0]
      refine zst ?_
      refine WU.stp rfl rfl rfl (stp_call rfl (c_isSync (h.ic.ext x) (hv.ext x) hg)) ?_
      rintro _ _ ⟨rfl, rfl⟩
      refine zst ?_
      exact ⟨rfl, rfl, rfl, rfl, rfl, rfl, trivial⟩
    · rw [show ((es.length : Int) == 0) = false from beq_eq_false_iff_ne.2 (by omega)]
      refine zst ?_
      exact ⟨rfl, rfl, rfl, rfl, rfl, rfl, trivial⟩
  refine zst ?_
  refine W.loop (σ := Nat) (fun k => [(45, .int .i64 k), (44, .int .i64 es.length), (43, .slice fa es.length fc), (7, .int .i64 (maxA 1 (l.take k))), (0, pt pb), (4, pt rb)])
    (fun k D' wk => D' = dfr rb ∧ k ≤ es.length ∧ Ext w wk) (fun k => es.length - k) 0 ⟨rfl, Nat.zero_le _, Ext.rfl' _⟩ (by exact sub_of ⟨rfl, rfl, rfl, rfl, rfl, rfl, trivial⟩) ?_
  rintro k D' wr ⟨rfl, hk, xr⟩
  have hr1 := hr.ext' xr
  refine zst ?_
  by_cases hlt : k < es.length
  · rw [show decide ((k : Int) < (es.length : Int)) = true by simpa using hlt]
    have he := List.getElem?_eq_getElem hlt
    have hq := List.getElem?_eq_getElem (show k < l.length by omega)
    generalize es[k] = e at he
    generalize l[k] = q at hq
    have iA := ih k e q he hq
    have htk : l.take (k + 1) = l.take k ++ [q] := by rw [List.take_add_one, hq]; rfl
    obtain ⟨fb, rfl, hfc⟩ := hf.cell k hlt
    obtain ⟨hrt, pk, kd, em, hvv⟩ := hf.fld k e he
    have hvr := hvv.ext' (x.trans xr)
    refine zst ?_
    refine WU.yld rfl rfl rfl (yld_load_c rfl (xr.cell hfc)) ?_
    refine zst ?_
    refine WU.stp rfl rfl rfl (stp_call rfl (iA (vv k) wr hrt (x.trans xr))) ?_
    rintro _ w2 ⟨rfl, x2⟩
    refine zst ?_
    by_cases hm : q.2 > maxA 1 (l.take k)
    · rw [decide_eq_true hm]
      refine zst ?_
      exact ⟨k + 1, by omega, ⟨rfl, by omega, xr.trans x2⟩, sub_of ⟨rfl, rfl, rfl, by rw [htk, maxA_snoc, show max (maxA 1 (l.take k)) q.2 = q.2 by omega]; rfl, rfl, rfl, trivial⟩⟩
    · rw [decide_eq_false hm]
      refine zst ?_
      exact ⟨k + 1, by omega, ⟨rfl, by omega, xr.trans x2⟩, sub_of ⟨rfl, rfl, rfl, by rw [htk, maxA_snoc, show max (maxA 1 (l.take k)) q.2 = maxA 1 (l.take k) by omega]; rfl, rfl, rfl, trivial⟩⟩
  · rw [show decide ((k : Int) < (es.length : Int)) = false by simpa using hlt]
    rw [List.take_of_length_le (by omega)]
    refine zst ?_
    refine WU.stp0 rfl rfl (stp_store_cell rfl rfl rfl rfl) ?_
    rintro _ w2 u2
    refine zst ?_
    exact .fin (.inl rfl) rfl u2.has (maxA_one) (u2.ext (xI.trans xr) x0I)
/-- from what underlies the type on: the function as a whole -/
theorem AlG.of (h : StC K s w0 pb wd mx) (hg : Good K.D t) {al : Int} (tail : ∀ (v : Value) (w wI : World) (rb : Nat) (y : Ty) (T b : Nat), Ext w0 w → Ext wI w → wI.heap.size ≤ rb → Has w rb (.cells #[.int .i64 0] 2) → RT K s w0 s.sl v t → RT K s w0 s.sl (.iface T (pt b)) y → isLit y → underT K.D t = norm y → AlX pb rb v (.iface T (pt b)) al wI w) : AlG K s w0 pb t al := by
  intro v w hv x
  refine W.enterC (args := [pt pb, v]) (f := 68) Tryz.func43 rfl Tryz.ntmps43 rfl rfl rfl Tryz.func68 (by kernel_rfl) rfl Tryz.ntmps68 rfl ?_ ?_
  · intro b w v h1 hb
    refine zst ?_
    rw [decide_eq_true (show v ≥ 1 from h1)]
    refine WU.stp rfl rfl rfl (stp_call rfl (c_assert w)) ?_
    rintro _ _ rfl
    refine zst ?_
    exact fin0 (.inr rfl) rfl rfl
  · refine zst ?_
    refine WU.stp rfl rfl rfl stp_alloc ?_
    rintro _ w1 ⟨rb, rfl, n1⟩
    have hr : Has w1 rb (.cells #[.int .i64 0] 2) := n1.has
    have x1 := n1.ext
    have e1 := n1.num
    clear n1
    refine zst ?_
    refine WU.yld rfl rfl rfl (yld_makeFunc rfl) ?_
    refine WU.deferC rfl ?_
    refine zst ?_
    refine WU.stp rfl rfl rfl (und_val h.ic h.sl (x.trans x1) hg hv rfl) ?_
    rintro _ _ ⟨rfl, y, T, b, rfl, hy, hyl, hyu⟩
    (repeat ((fail_if_success guard_target =~ gW (.block _ _)); refine zs1 ?_))
    exact W.useS (tail v w1 w rb y T b (x.trans x1) x1 (by omega) hr hv hy hyl hyu) rfl ⟨rfl, rfl, rfl, rfl, trivial⟩
end
end Go.Proofs.YtpiegpegjbmlkaaGreatDoor
namespace Go.Proofs.YtpiegpegjbmlkaaGreatDoor
open Go Go.Kd
set_option maxRecDepth 100000

/-- the forms of literals -/
inductive LitC (K : Cfg) (s : Gs) (w : World) (T b : Nat) (y : Ty) : Prop
  | basic (nb : ByteArray) : T = 109 → y.kind = 0 → 0 ≤ y.n → y.n < 20 → Has w b (.cells #[.int .i64 (bk y.n), .int .i64 (infK (bk y.n)), .string nb] 139) → LitC K s w T b y
  | iface : T = 108 → (norm y).kind = 9 → LitC K s w T b y
  | word : T = 128 ∨ T = 189 ∨ T = 191 ∨ T = 134 → y.kind = 2 ∨ y.kind = 5 ∨ y.kind = 6 ∨ y.kind = 8 → LitC K s w T b y
  | slice : T = 107 → y.kind = 3 → LitC K s w T b y
  | array (e : Ty) (u : Value) : T = 94 → y.kind = 4 → y.elems = [e] → RT K s w s.sl u e → Has w b (.cells #[.int .i64 y.n, u] 96) → LitC K s w T b y
  | struct (fa : Option Addr) (fc : Nat) (tv : Value) (vb : Nat → Nat) (vv : Nat → Value) : T = 75 → y.kind = 7 → FldsV K s w w fa y.elems vb vv → Has w b (.cells #[.slice fa y.elems.length fc, tv] 98) → LitC K s w T b y
theorem lit_cases {K : Cfg} {s : Gs} {w : World} {T b : Nat} {y : Ty} (h : RT K s w s.sl (.iface T (pt b)) y) (hl : isLit y) : LitC K s w T b y := by
  generalize hu : Value.iface T (pt b) = u at h
  cases h with
  | basic _ b i nb h0 h1 h2 hp h3 h4 => cases hu; exact .basic nb rfl h0 h1 h2 h3
  | error _ h0 h1 => exact absurd ⟨h0, h1⟩ hl.2
  | any _ _ h0 h1 =>
    cases hu
    refine .iface rfl ?_
    rcases norm_cases y with ⟨h, _⟩ | ⟨_, _, _, _, h3⟩ | ⟨_, _, h⟩
    · exact absurd h0 h
    · exact absurd h1 h3
    · rw [h]; rfl
  | named _ _ h0 => exact absurd h0 hl.1
  | ptr _ _ _ _ h0 => cases hu; exact .word (.inl rfl) (.inl h0)
  | slice _ _ _ _ h0 => cases hu; exact .slice rfl h0
  | array _ e u b h0 h1 hr hp h3 h4 => cases hu; exact .array e u rfl h0 h1 hr h3
  | map _ _ _ _ _ _ h0 => cases hu; exact .word (.inr (.inl rfl)) (.inr (.inl h0))
  | chan _ _ _ _ h0 => cases hu; exact .word (.inr (.inr (.inl rfl))) (.inr (.inr (.inl h0)))
  | struct _ b fa fc ta tc vb vv tg h0 hr h2 hp h3 h4 h5 h6 =>
    cases hu
    exact .struct fa fc _ vb vv rfl h0 ⟨fun i hi => by
      obtain ⟨rb, cs, k1, _, k2, k3⟩ := h4 i hi
      exact ⟨rb, k1, by rw [Nat.mul_one, Nat.zero_add]; exact cell_of k2 k3⟩, fun i e he => ⟨hr i e he, _, _, _, (h2 i e he).2.1⟩⟩ h3
  | func _ _ _ _ _ _ h0 => cases hu; exact .word (.inr (.inr (.inr rfl))) (.inr (.inr (.inr h0)))
  | iface _ _ _ _ _ _ _ _ _ _ h0 => cases hu; exact .iface rfl (by rw [norm_named (by omega)]; exact h0)
theorem FldsV.ext {K : Cfg} {s : Gs} {w0 w w' : World} (x : Ext w w') {a : Option Addr} {es : List Ty} {vb : Nat → Nat} {vv : Nat → Value} (h : FldsV K s w0 w a es vb vv) : FldsV K s w0 w' a es vb vv := ⟨fun i hi => by
  obtain ⟨b, h1, h2⟩ := h.cell i hi
  exact ⟨b, h1, x.cell h2⟩, h.fld⟩
section
variable {K : Cfg} {s : Gs} {w0 w : World} {pb b : Nat} {wd mx : Int} {v : Value} {t y : Ty}
theorem SzG.of (h : StC K s w0 pb wd mx) (hg : Good K.D t) {sz : Int} (tail : ∀ (v : Value) (w : World) (y : Ty) (T b : Nat), Ext w0 w → RT K s w0 s.sl v t → LitC K s w0 T b y → underT K.D t = norm y → SzX pb v (.iface T (pt b)) sz w w) : SzG K s w0 pb t sz := by
  intro v w hv x
  refine W.enter (args := [pt pb, v]) Tryz.func52 rfl Tryz.ntmps52 rfl rfl ?_
  refine zst ?_
  refine WU.stp rfl rfl rfl (und_val h.ic h.sl x hg hv rfl) ?_
  rintro _ _ ⟨rfl, y, T, b, rfl, hy, hyl, hyu⟩
  (repeat ((fail_if_success guard_target =~ gW (.block _ _)); refine zs1 ?_))
  exact W.useS (tail v w y T b x hv (lit_cases hy hyl) hyu) rfl ⟨rfl, rfl, rfl, trivial⟩
theorem AlG.of' (h : StC K s w0 pb wd mx) (hg : Good K.D t) {al : Int} (tail : ∀ (v : Value) (w wI : World) (rb : Nat) (y : Ty) (T b : Nat), Ext w0 w → Ext wI w → wI.heap.size ≤ rb → Has w rb (.cells #[.int .i64 0] 2) → RT K s w0 s.sl v t → LitC K s w0 T b y → underT K.D t = norm y → AlX pb rb v (.iface T (pt b)) al wI w) : AlG K s w0 pb t al :=
  AlG.of h hg fun v w wI rb y T b x xI hI hr hv hy hyl hyu => tail v w wI rb y T b x xI hI hr hv (lit_cases hy hyl) hyu
theorem aBasic_eq (wd mx n : Int) (h : n ≠ 16) : aBasic wd mx n = min (if n = 14 ∨ n = 15 then sBasic wd n / 2 else sBasic wd n) mx := by
  unfold aBasic
  rw [if_neg h]
theorem bk16 {n : Int} (_ : 0 ≤ n) (_ : n < 20) : bk n - 1 = 16 ↔ n = 16 := by
  unfold bk
  split
  · omega
  split <;> omega
theorem bk_range {n : Int} (h0 : 0 ≤ n) (h1 : n < 20) : 1 ≤ bk n ∧ bk n ≤ 18 := by
  unfold bk
  split
  · omega
  split <;> omega
set_option maxHeartbeats 1000000 in
theorem c_gSzAl (h : StC K s w0 pb wd mx) (hRD : RngD K.D) {sz al : Int} (hz : Sz K.D wd mx t sz al) : Good K.D t → Rng t → SzG K s w0 pb t sz ∧ AlG K s w0 pb t al := by
  induction hz with
  | basic t hk =>
    intro hg _
    have sg : SzG K s w0 pb t (sBasic wd (underT K.D t).n) := SzG.of h hg fun v w y T b x hv hl hu => by
      rw [hu] at hk ⊢
      cases hl with
      | basic nb hT h0 h1 h2 hb =>
        subst hT
        rw [(norm_bas h0 h1 h2).2]
        exact sz_basic h x hv hg (bk_range h1 h2) hb
      | iface _ h9 => omega
      | word _ h9 => rw [norm_named (by omega)] at hk; omega
      | slice _ h9 => rw [norm_named (by omega)] at hk; omega
      | array _ _ _ h9 => rw [norm_named (by omega)] at hk; omega
      | struct _ _ _ _ _ _ h9 => rw [norm_named (by omega)] at hk; omega
    refine ⟨sg, AlG.of' h hg fun v w wI rb y T b x xI hI hr hv hl hu => ?_⟩
    have hs := sBasic_ok h.ok.wd (underT K.D t).n
    have hE : (underT K.D t).n ≠ 16 → AlE pb rb v (aBasic wd mx (underT K.D t).n) wI w := fun hn => by
      have := al_end h x xI hI hr hv hg sg hs fun hc => by
        rcases hc.2 with e | e <;> (rw [e]; simp [sBasic])
      rw [aBasic_eq _ _ _ hn]
      simpa only [hk, true_and] using this
    rw [hu] at hk hE ⊢
    cases hl with
    | basic nb hT h0 h1 h2 hb =>
      subst hT
      rw [(norm_bas h0 h1 h2).2] at hE ⊢
      refine al_basic h x xI hI hr h1 h2 hb (fun hn => ?_) fun hn => hE fun e => hn ((bk16 h1 h2).1 e)
      unfold aBasic
      rw [if_pos ((bk16 h1 h2).2 hn)]
    | iface _ h9 => omega
    | word _ h9 => rw [norm_named (by omega)] at hk; omega
    | slice _ h9 => rw [norm_named (by omega)] at hk; omega
    | array _ _ _ h9 => rw [norm_named (by omega)] at hk; omega
    | struct _ _ _ _ _ _ h9 => rw [norm_named (by omega)] at hk; omega
  | slice t hk =>
    intro hg _
    refine ⟨SzG.of h hg fun v w y T b x hv hl hu => ?_, AlG.of' h hg fun v w wI rb y T b x xI hI hr hv hl hu => ?_⟩
    all_goals
      rw [hu] at hk
      cases hl with
      | basic nb hT h0 h1 h2 hb => have := (norm_bas h0 h1 h2).1; omega
      | iface _ h9 => omega
      | word _ h9 => rw [norm_named (by omega)] at hk; omega
      | slice hT h9 => subst hT; first | exact sz_slice h x | exact al_multi h x xI hI hr hv hg (.inl rfl)
      | array _ _ _ h9 => rw [norm_named (by omega)] at hk; omega
      | struct _ _ _ _ _ _ h9 => rw [norm_named (by omega)] at hk; omega
  | iface t hk =>
    intro hg _
    refine ⟨SzG.of h hg fun v w y T b x hv hl hu => ?_, AlG.of' h hg fun v w wI rb y T b x xI hI hr hv hl hu => ?_⟩
    all_goals
      rw [hu] at hk
      cases hl with
      | basic nb hT h0 h1 h2 hb => have := (norm_bas h0 h1 h2).1; omega
      | iface hT _ => subst hT; first | exact sz_iface h x hv hg | exact al_multi h x xI hI hr hv hg (.inr rfl)
      | word _ h9 => rw [norm_named (by omega)] at hk; omega
      | slice _ h9 => rw [norm_named (by omega)] at hk; omega
      | array _ _ _ h9 => rw [norm_named (by omega)] at hk; omega
      | struct _ _ _ _ _ _ h9 => rw [norm_named (by omega)] at hk; omega
  | word t hk =>
    intro hg _
    have hw := h.ok.wd
    have hk1 : (underT K.D t).kind ≠ 0 := by omega
    have sg : SzG K s w0 pb t wd := SzG.of h hg fun v w y T b x hv hl hu => by
      rw [hu] at hk
      cases hl with
      | basic nb hT h0 h1 h2 hb => have := (norm_bas h0 h1 h2).1; omega
      | iface _ h9 => omega
      | word hT h9 => exact sz_word h x hT
      | slice _ h9 => rw [norm_named (by omega)] at hk; omega
      | array _ _ _ h9 => rw [norm_named (by omega)] at hk; omega
      | struct _ _ _ _ _ _ h9 => rw [norm_named (by omega)] at hk; omega
    refine ⟨sg, AlG.of' h hg fun v w wI rb y T b x xI hI hr hv hl hu => ?_⟩
    have hE := al_end h x xI hI hr hv hg sg (by omega) fun hc => absurd hc.1 hk1
    rw [if_neg (fun hc => hk1 hc.1)] at hE
    rw [hu] at hk
    cases hl with
    | basic nb hT h0 h1 h2 hb => have := (norm_bas h0 h1 h2).1; omega
    | iface _ h9 => omega
    | word hT h9 => exact al_word x hT hE
    | slice _ h9 => rw [norm_named (by omega)] at hk; omega
    | array _ _ _ h9 => rw [norm_named (by omega)] at hk; omega
    | struct _ _ _ _ _ _ h9 => rw [norm_named (by omega)] at hk; omega
  | arr t e sz al hk he hz ih =>
    intro hg hR
    have hu0 := hg.under h.ic.ok
    have hRu := rng_under h.ic.ok hRD hg hR
    have he0 : (underT K.D t).elems[0]? = some e := by rw [he]; rfl
    obtain ⟨is, ia⟩ := ih (hu0.el he0) (hRu.el 0 e he0)
    have ok := hz.ok h.ok
    have hn : 0 ≤ (underT K.D t).n := by
      obtain ⟨_, _, _, hs⟩ := hu0.sh
      exact hs.shape.n0 (by rw [hk]; simp [limitN])
    have hn2 := hRu.n
    refine ⟨SzG.of h hg fun v w y T b x hv hl hu => ?_, AlG.of' h hg fun v w wI rb y T b x xI hI hr hv hl hu => ?_⟩
    all_goals
      rw [hu] at hk he hn hn2
      try rw [hu]
      cases hl with
      | basic nb hT h0 h1 h2 hb => have := (norm_bas h0 h1 h2).1; omega
      | iface _ h9 => omega
      | word _ h9 => rw [norm_named (by omega)] at hk; omega
      | slice _ h9 => rw [norm_named (by omega)] at hk; omega
      | array e' u hT h9 hel hru hb =>
        subst hT
        rw [norm_named (by omega)] at he hn hn2
        rw [hel] at he
        cases he
        first
        | (rw [norm_named (by omega)]; exact sz_arr h x ⟨hn, hn2⟩ ok.1 ok.2 is ia hru hb)
        | exact al_arr x xI hI hr ok.2 ia hru hb
      | struct _ _ _ _ _ _ h9 => rw [norm_named (by omega)] at hk; omega
  | str t l hk hl hz ih =>
    intro hg hR
    have hu0 := hg.under h.ic.ok
    have hRu := rng_under h.ic.ok hRD hg hR
    have hlen := wt_len (underT K.D t)
    have hwt := hu0.wt
    have hi : ∀ (i : Nat) e q, (underT K.D t).elems[i]? = some e → l[i]? = some q → SzG K s w0 pb e q.1 ∧ AlG K s w0 pb e q.2 := fun i e q he hq => ih i e q he hq (hu0.el he) (hRu.el i e he)
    have hq : ∀ (i : Nat) q, l[i]? = some q → okS q.1 ∧ okA q.2 := fun i q hq => by
      have hlt := (List.getElem?_eq_some_iff.1 hq).1
      exact (hz i _ q (List.getElem?_eq_getElem (by omega)) hq).ok h.ok
    refine ⟨SzG.of h hg fun v w y T b x hv hl' hu => ?_, AlG.of' h hg fun v w wI rb y T b x xI hI hr hv hl' hu => ?_⟩
    all_goals
      rw [hu] at hk hl hlen hwt hi
      cases hl' with
      | basic nb hT h0 h1 h2 hb => have := (norm_bas h0 h1 h2).1; omega
      | iface _ h9 => omega
      | word _ h9 => rw [norm_named (by omega)] at hk; omega
      | slice _ h9 => rw [norm_named (by omega)] at hk; omega
      | array _ _ _ h9 => rw [norm_named (by omega)] at hk; omega
      | struct fa fc tv vb vv hT h9 hf hb =>
        subst hT
        rw [norm_named (by omega)] at hl hlen hwt hi
        first
        | exact sz_str h x (hf.ext x) (by omega) hl hq hi hb
        | exact al_str h x xI hI hr hv hg (hf.ext x) (by omega) hl (fun i e q he hq => (hi i e q he hq).2) hb
end
end Go.Proofs.YtpiegpegjbmlkaaGreatDoor
namespace Go.Kd
section
variable {P : Program} {n : Nat} {ops : List Oper} {Q : Post} {D : List Deferred} {e : Env} {w : World} {R : World → World → Prop}
/-- some operations are done; k are left -/
structure WX (R : World → World → Prop) (P : Program) (n : Nat) (ops : List Oper) (Q : Post) (listed : Array Bool) (k : Nat) (D : List Deferred) (e : Env) (w : World) : Prop where
  out : Closed .any ops.toArray listed → ∀ a, Fr n D e a → wpER R P .any ops.toArray (post n Q) k listed a w
theorem W.regX2 [hm : Mixed P] {id : Nat} {l : List Oper} (R : World → World → Prop) (h : ∀ w', Ext w w' → w'.heap = w.heap → WX R P n l Q (Array.replicate l.length false) l.length D e w') : W P n (.region id l.toArray true) Q D e w := ⟨fun a ha => by
  refine wp_region_any hm.mixed (wpAny_of_wpER (R := R) _ _ _ _ ?_)
  have hx : Ext w { w with drawn := w.drawn + 1 } := ⟨⟨rfl, rfl, rfl, Nat.le_refl _, fun _ _ => rfl⟩⟩
  have := (h _ hx rfl).out (fun k ok _ h => by simp [Array.getD] at h) a ha
  simpa using this⟩
/-- the rest in one order -/
theorem WX.lin {listed : Array Bool} {k : Nat} (hrr : ∀ w, R w w) (ht : ∀ a b c, R a b → R b c → R a c) (L : List (Nat × Kn)) (hs : Region.noSelect ops.toArray = true) (hL : ordOk .any ops.toArray L listed = true) (hlen : L.length = k) (h : WR R P n ops Q L D e w) : WX R P n ops Q listed k D e w := ⟨fun hcl a ha => by
  subst hlen
  exact wpER_of_wpLR (md := .any) (Q := post n Q) hrr ht (fun c a w hq => hq) hs L listed a w hcl hL (h.out a ha)⟩
/-- a quiet one first -/
theorem WX.q {listed : Array Bool} {k : Nat} (hrr : ∀ w, R w w) (ht : ∀ a b c, R a b → R b c → R a c) (i : Nat) {o : Oper} {d : Nat} {v : Value} (hs : Region.noSelect ops.toArray = true) (hr : (Region.ready .any ops.toArray listed).contains i = true) (hf : Region.free .any ops.toArray listed i = true) (hi : ops[i]? = some o) (hd : o.dst = some d) (hl : Nat.blt d n = true)
    (hg : wn ops e o.guard = some true) (h : ∀ w', R w w' → Yld P e o v w') (hk : WX R P n ops Q (listed.setIfInBounds i true) k D ((d, v) :: e) w) : WX R P n ops Q listed (k + 1) D e w := ⟨fun hcl a ha => by
  have hr' : i ∈ Region.ready .any ops.toArray listed := by simpa using hr
  have hi' : ops.toArray[i]? = some o := by simpa using hi
  have hp : Fr n D ((d, v) :: e) (a.put o.dst v) := by rw [hd]; exact ha.put (by simpa [Nat.blt_eq] using hl) v
  exact wpER_first hrr ht hi' (Region.noSelect_spec hs) (fun c a w hq => hq) k listed a w hcl (Region.free_spec hi' hf) hr' (.inl ⟨wn_spec hg ha, fun w' hx => (h w' hx).out _ ha.ag w' (Ext.rfl' w')⟩) (hk.out (hcl.step hr') _ hp)⟩
/-- one of two comes next -/
theorem WX.two {listed : Array Bool} {k i j : Nat} {o o' : Oper} {d d' : Nat} {S S' : Value → World → Prop} (hr : (Region.ready .any ops.toArray listed == [i, j]) = true)
    (hi : ops[i]? = some o) (hd : o.dst = some d) (hl : Nat.blt d n = true) (hg : wn ops e o.guard = some true) (h : Stp P e o w S)
    (hi' : ops[j]? = some o') (hd' : o'.dst = some d') (hl' : Nat.blt d' n = true) (hg' : wn ops e o'.guard = some true) (h' : Stp P e o' w S')
    (hk : ∀ v w', S v w' → R w w' ∧ WX R P n ops Q (listed.setIfInBounds i true) k D ((d, v) :: e) w') (hk' : ∀ v w', S' v w' → R w w' ∧ WX R P n ops Q (listed.setIfInBounds j true) k D ((d', v) :: e) w') :
    WX R P n ops Q listed (k + 1) D e w := ⟨fun hcl a ha => by
  have hrr : Region.ready .any ops.toArray listed = [i, j] := by simpa using hr
  have hri : i ∈ Region.ready .any ops.toArray listed := by rw [hrr]; simp
  have hrj : j ∈ Region.ready .any ops.toArray listed := by rw [hrr]; simp
  have hi2 : ops.toArray[i]? = some o := by simpa using hi
  have hj2 : ops.toArray[j]? = some o' := by simpa using hi'
  refine ⟨fun h0 => (by rw [h0] at hrr; cases hrr), fun m hm => ?_⟩
  rw [hrr] at hm
  simp only [List.mem_cons, List.not_mem_nil, or_false] at hm
  unfold wpOp
  rcases hm with rfl | rfl
  · simp only [hi2]
    rw [wn_spec hg ha, if_pos rfl]
    exact .inl (upon_of_stp ha h fun v w' hR => ⟨.inl (hk v w' hR).1, (hk v w' hR).2.out (hcl.step hri) _ (by rw [hd]; exact ha.put (by simpa [Nat.blt_eq] using hl) v)⟩)
  · simp only [hj2]
    rw [wn_spec hg' ha, if_pos rfl]
    exact .inl (upon_of_stp ha h' fun v w' hR => ⟨.inl (hk' v w' hR).1, (hk' v w' hR).2.out (hcl.step hrj) _ (by rw [hd']; exact ha.put (by simpa [Nat.blt_eq] using hl') v)⟩)⟩
end
end Go.Kd
namespace Go.Proofs.YtpiegpegjbmlkaaGreatDoor
open Go Go.Kd

structure Eqv (t u : Ty) : Prop where
  kd : t.kind = u.kind
  n : t.n = u.n
  c : t.count = u.count
  v : t.vr = u.vr
  el : t.elems = u.elems
theorem Eqv.rfl' (t : Ty) : Eqv t t := ⟨rfl, rfl, rfl, rfl, rfl⟩
theorem Eqv.symm {t u : Ty} (h : Eqv t u) : Eqv u t := ⟨h.kd.symm, h.n.symm, h.c.symm, h.v.symm, h.el.symm⟩
/-- a type as an element -/
def elT (t : Ty) : Ty := .mk t.kind t.n t.count t.vr t.elems eB eB false
theorem Eqv.elT (t : Ty) : Eqv t (elT t) := ⟨rfl, rfl, rfl, rfl, rfl⟩
theorem wt_elT (t : Ty) : wt (elT t) ≤ wt t := by rw [wt_eq t, wt_eq]; show 1 + (0 + 0) + _ ≤ _; simp only [_root_.Go.Proofs.YtpiegpegjbmlkaaGreatDoor.elT, Ty.elems]; omega
theorem Eqv.decl {D : List De} {t u : Ty} (h : Eqv t u) : decl D t = decl D u := by unfold Go.Proofs.YtpiegpegjbmlkaaGreatDoor.decl; rw [h.kd, h.n]
theorem Eqv.isAl {D : List De} {t u : Ty} (h : Eqv t u) : isAl D t = isAl D u := by unfold Go.Proofs.YtpiegpegjbmlkaaGreatDoor.isAl; rw [h.decl]
theorem Eqv.unal1 {D : List De} {t u : Ty} (h : Eqv t u) : Eqv (unal1 D t) (unal1 D u) := by
  unfold Go.Proofs.YtpiegpegjbmlkaaGreatDoor.unal1
  rw [h.decl]
  split
  · split
    · exact .rfl' _
    · exact h
  · exact h
theorem Eqv.rep {f : Ty → Ty} (hf : ∀ {t u : Ty}, Eqv t u → Eqv (f t) (f u)) {t u : Ty} (h : Eqv t u) : ∀ k, Eqv (rep f k t) (rep f k u)
  | 0 => h
  | k + 1 => hf (Eqv.rep hf h k)
theorem Eqv.norm {t u : Ty} (h : Eqv t u) : Eqv (norm t) (norm u) := by
  unfold Go.Proofs.YtpiegpegjbmlkaaGreatDoor.norm
  rw [h.kd, h.n]
  obtain ⟨k, n, c, v, l, s, g, e⟩ := t
  obtain ⟨k', n', c', v', l', s', g', e'⟩ := u
  obtain ⟨h1, h2, h3, h4, h5⟩ := h
  simp only [Ty.kind, Ty.n, Ty.count, Ty.vr, Ty.elems] at h1 h2 h3 h4 h5
  subst h1 h2 h3 h4 h5
  repeat' split
  all_goals exact ⟨rfl, rfl, rfl, rfl, rfl⟩
theorem Eqv.unalias {D : List De} {t u : Ty} (h : Eqv t u) : Eqv (unaliasT D t) (unaliasT D u) := (Eqv.rep Eqv.unal1 h _).norm
theorem Eqv.und1 {D : List De} {t u : Ty} (h : Eqv t u) : Eqv (und1 D t) (und1 D u) := by
  unfold Go.Proofs.YtpiegpegjbmlkaaGreatDoor.und1
  rw [h.decl]
  split
  · exact .rfl' _
  · exact h
theorem Eqv.errN {t u : Ty} (h : Eqv t u) : Eqv (errN t) (errN u) := by
  unfold Go.Proofs.YtpiegpegjbmlkaaGreatDoor.errN
  rw [h.kd, h.n]
  split
  · exact .rfl' _
  · exact h
theorem Eqv.under {D : List De} {t u : Ty} (h : Eqv t u) : Eqv (underT D t) (underT D u) := (Eqv.rep Eqv.und1 h.unalias _).errN
theorem Eqv.im {D : List De} {t u : Ty} (h : Eqv t u) {ms : List Mt} (hm : IM D t ms) : IM D u ms := by
  have hu := h.under (D := D)
  cases hm with
  | no _ hk => exact .no u (by rw [← hu.kd]; exact hk)
  | yes _ L h9 hl h1 h2 =>
    rw [hu.c]
    rw [hu.kd] at h9
    rw [hu.el] at hl
    rw [hu.c, hu.el, hu.n] at h1
    rw [hu.c, hu.el] at h2
    exact .yes u L h9 hl h1 h2
theorem Eqv.exp {D : List De} {t u : Ty} (h : Eqv t u) {x : X} (hx : Exp D t x) : Exp D u x := by
  have ha := h.unalias (D := D)
  cases hx with
  | leaf _ hk =>
    rw [ha.kd] at hk
    rw [ha.kd, ha.n]
    exact .leaf u hk
  | plain _ es h2 h8 hl he =>
    rw [ha.kd] at h2 h8
    rw [ha.el] at hl he
    have := Exp.plain u es h2 h8 hl he
    unfold nN cN vN anN at this ⊢
    rw [ha.kd, ha.n, ha.c, ha.v, ha.el]
    exact this
  | iface _ ms es h9 hm hl he => exact .iface u ms es (by rw [← ha.kd]; exact h9) (ha.im hm) hl he
theorem Eqv.shaped {D : List De} {i : Nat} {v : Bool} {t u : Ty} (h : Eqv t u) (hs : Shaped D i v t) : Shaped D i v u := by
  have s := hs.shape
  refine .mk v u ⟨by rw [← h.kd]; exact s.lo, by rw [← h.kd]; exact s.hi, by rw [← h.kd, ← h.el]; exact s.len, by rw [← h.kd, ← h.n]; exact s.n0, by rw [← h.kd, ← h.n]; exact s.n1, by rw [← h.kd, ← h.n, ← h.isAl]; exact s.nm, by rw [← h.kd, ← h.c]; exact s.c0, by rw [← h.kd, ← h.c, ← h.el]; exact s.c1,
    by rw [← h.kd, ← h.v, ← h.c, ← h.el]; exact s.vr, by rw [← h.kd, ← h.c, ← h.el]; exact s.mth⟩ fun j e he => ?_
  rw [← h.el] at he
  have := hs.el j e he
  unfold holdsT at this ⊢
  rw [← h.kd, ← h.c]
  exact this
theorem Eqv.cons {D : List De} {t u : Ty} (h : Eqv t u) {all : List Mt} (c : Cons D t all) : Cons D u all := by
  obtain ⟨h1, h2, h3⟩ := c
  rw [h.el, h.c] at h2 h3
  exact ⟨h.im h1, h2, h3⟩
theorem Eqv.legal {D : List De} {t u : Ty} (h : Eqv t u) (hl : Legal D t) : Legal D u := by
  refine .mk u (fun i e he => hl.el i e (by rw [h.el]; exact he)) ?_
  obtain ⟨h1, h2, h3, h4, h5, h6, h7, h8⟩ := hl.here
  rw [h.kd] at h1 h2 h3 h4 h5 h6 h7 h8
  rw [h.el] at h1 h2 h3 h4 h5 h6 h7
  rw [h.c] at h4 h5 h6 h7
  exact ⟨h1, h2, h3, h4, h5, h6, h7, fun k => by obtain ⟨all, ha⟩ := h8 k; exact ⟨all, h.cons ha⟩⟩
theorem Eqv.valid {D : List De} {t u : Ty} (h : Eqv t u) (hv : ValidT D t) : ValidT D u := ⟨h.shaped hv.sh, h.legal hv.lg⟩

theorem Shaped.any {D : List De} {v : Bool} {t : Ty} (h : Shaped D D.length v t) : ∀ v', Shaped D D.length v' t := by
  generalize hi : D.length = i at h
  induction h with
  | mk v t s _ ih =>
    intro v'
    refine .mk v' t ⟨s.lo, s.hi, s.len, s.n0, s.n1, fun hk _ => ?_, s.c0, s.c1, s.vr, s.mth⟩ fun j e he => ih j e he _
    have := s.n1 (by rw [hk]; simp [limitN])
    rw [hk] at this
    simp [limitN] at this
    omega
theorem ValidT.el {D : List De} {t : Ty} (h : ValidT D t) {i : Nat} {e : Ty} (he : t.elems[i]? = some e) : ValidT D e := ⟨(h.sh.el i e he).any _, h.lg.el i e he⟩

/-- a type of this kind, of these elements -/
def ndT (k n : Int) (l : List Ty) : Ty := .mk k n 0 false l eB eB false
theorem wt_nd (k n : Int) (l : List Ty) : wt (ndT k n l) = 1 + wts l := by rw [wt_eq]; simp only [ndT, Ty.elems, Ty.name, Ty.tag]; rfl
theorem valid_nd1 {D : List De} {k n : Int} {t : Ty} (hk : k = 2 ∨ k = 3 ∨ (k = 4 ∧ 0 ≤ n) ∨ (k = 6 ∧ 0 ≤ n ∧ n < 3)) (h : ValidT D t) : ValidT D (ndT k n [elT t]) := by
  have he : ∀ (j : Nat) e, (ndT k n [elT t]).elems[j]? = some e → e = elT t := fun j e he => by
    have he : [elT t][j]? = some e := he
    match j with
    | 0 => simpa using he.symm
    | j + 1 => simp at he
  have hke : (ndT k n [elT t]).kind = k := rfl
  have hn : (ndT k n [elT t]).n = n := rfl
  refine ⟨.mk _ _ ⟨by omega, by omega, fun _ => ?_, fun hl => ?_, fun hl => ?_, fun _ => by omega, fun _ => by omega, fun _ => by omega, fun _ => by omega, fun _ => by omega⟩ fun j e hj => ?_, .mk _ (fun j e hj => ?_) ⟨fun _ => by omega, fun _ => by omega, fun _ => by omega, fun _ => by omega, fun _ => by omega, fun _ => by omega, fun _ => by omega, fun _ => by omega⟩⟩
  · rw [hke]; rcases hk with rfl | rfl | ⟨rfl, _⟩ | ⟨rfl, _⟩ <;> rfl
  · rw [hke] at hl; rw [hn]
    rcases hk with rfl | rfl | ⟨rfl, h⟩ | ⟨rfl, h, _⟩
    · simp [limitN] at hl
    · simp [limitN] at hl
    · exact h
    · exact h
  · rw [hke] at hl ⊢; rw [hn]
    rcases hk with rfl | rfl | ⟨rfl, _⟩ | ⟨rfl, _, h⟩
    · simp [limitN] at hl
    · simp [limitN] at hl
    · simp [limitN] at hl
    · simpa [limitN] using h
  · rw [he j e hj]; exact ((Eqv.elT t).shaped h.sh).any _
  · rw [he j e hj]; exact (Eqv.elT t).legal h.lg
end Go.Proofs.YtpiegpegjbmlkaaGreatDoor
namespace Go.Proofs.YtpiegpegjbmlkaaGreatDoor
open Go Go.Kd

theorem Shaped.up {D : List De} {i j : Nat} (hij : i ≤ j) {v : Bool} {t : Ty} (h : Shaped D i v t) : Shaped D j v t := by
  induction h with
  | mk v t s _ ih => exact .mk v t ⟨s.lo, s.hi, s.len, s.n0, s.n1, fun hk hv => by have := s.nm hk hv; omega, s.c0, s.c1, s.vr, s.mth⟩ fun j e he => ih j e he
theorem Good.valid {D : List De} {t : Ty} (h : Good D t) (hl : Legal D t) : ValidT D t := by
  obtain ⟨i, v, hi, hs⟩ := h.sh
  exact ⟨(hs.up hi).any _, hl⟩
theorem ValidT.good {D : List De} {t : Ty} (h : ValidT D t) (hw : wt t ≤ 16777216) : Good D t := ⟨⟨_, _, Nat.le_refl _, h.sh⟩, hw⟩

end Go.Proofs.YtpiegpegjbmlkaaGreatDoor
namespace Go.Proofs.YtpiegpegjbmlkaaGreatDoor
open Go Go.Kd
set_option maxRecDepth 100000

instance : Imm 65 := imm_of rfl
/-- the boxed argument stays as it is -/
def Kp (b : Nat) (t : Ty) (a : Option Addr) (c : Nat) (w w' : World) : Prop := Has w b (.cells (tyc t a c).toArray 26) → Has w' b (.cells (tyc t a c).toArray 26)
set_option maxHeartbeats 2000000 in
theorem c_iSizeof {D : List De} {t : Ty} {sz al : Int} {a : Option Addr} {cp : Nat} {a1 : Option Addr} {c1 : Nat} {w : World} {wd mx : Int} (hp : Prp w) (hbz : Bsz w) (hW : OkW wd mx) (hV : ValidD D) (hT : ValidT D t) (hwd : wtD D ≤ 16777216) (hwt : wt t ≤ 16777216) (hRD : RngD D) (hR : Rng t) (hz : Sz D wd mx t sz al) (hd : DsV w (fun b => b < w.heap.size) (.slice a D.length cp) D) (ht : TysV w (fun b => b < w.heap.size) a1 c1 t.elems) :
    Calls Tryz.prog 26 #[.slice a D.length cp, .int .i64 wd, .int .i64 mx, .agg (tyc t a1 c1).toArray] w (Ret fun r w' => (∃ z, r = .int .i64 z ∧ alk z sz) ∧ Ext w w') := by
  refine W.enter (args := [.slice a D.length cp, .int .i64 wd, .int .i64 mx, .agg (tyc t a1 c1).toArray]) Tryz.func26 rfl Tryz.ntmps26 rfl rfl ?_
  refine zst ?_
  refine WU.stp rfl rfl rfl (by first | exact stp_box rfl rfl | exact stp_box1 rfl rfl) ?_
  rintro _ w1 ⟨b1, rfl, n1⟩
  refine zst ?_
  have ib1 : Has w1 b1 (.cells (tyc t a1 c1).toArray 26) := n1.has
  have rR : ∀ w : World, Kp b1 t a1 c1 w w := fun w h => h
  have rT : ∀ u v x : World, Kp b1 t a1 c1 u v → Kp b1 t a1 c1 v x → Kp b1 t a1 c1 u x := fun _ _ _ h k x => k (h x)
  refine W.regX2 (Kp b1 t a1 c1) ?_
  intro w2 x2 _
  have ib2 := ib1.ext' x2
  have x02 : Ext w w2 := n1.ext.trans x2
  have z02 := x02.size
  have hb1 := ib1.lt
  clear n1
  refine WX.q rR rT 0 (by kernel_rfl) (by kernel_rfl) (by kernel_rfl) rfl rfl rfl rfl (fun w' _ => zyl) ?_
  refine WX.q rR rT 1 (by kernel_rfl) (by kernel_rfl) (by kernel_rfl) rfl rfl rfl rfl (fun w' _ => zyl) ?_
  refine WX.q rR rT 2 (by kernel_rfl) (by kernel_rfl) (by kernel_rfl) rfl rfl rfl rfl (fun w' _ => zyl) ?_
  refine WX.q rR rT 4 (by kernel_rfl) (by kernel_rfl) (by kernel_rfl) rfl rfl rfl rfl (fun w' _ => zyl) ?_
  refine WX.q rR rT 6 (by kernel_rfl) (by kernel_rfl) (by kernel_rfl) rfl rfl rfl rfl (fun w' hk => by have i1 := hk ib2; exact yld_load_cells rfl (Cells.has i1)) ?_
  have hgd := hT.good hwt
  -- what is done at the end
  have last : ∀ (w5 : World) (K : Cfg) (s : Gs) (pb T rb : Nat), K.D = D → Ext w w5 → IC K s w5 → (∀ d, s.sl d → d < w5.heap.size) → Has w5 pb (.cells (szl wd mx).toArray 65) → RT K s w5 s.sl (.iface T (pt rb)) t →
      Calls Tryz.prog 52 #[pt pb, .iface T (pt rb)] w5 (Ret fun r w' => (∃ z, r = .int .i64 z ∧ alk z sz) ∧ Ext w5 w') := fun w5 K s pb T rb hKD x5 ic hsl hpb hrt => by
    subst hKD
    have hS : StC K s w5 pb wd mx := ⟨ic, hsl, hbz.ext x5, hpb, hW⟩
    exact (c_gSzAl hS hRD hz hgd hR).1 _ w5 hrt (Ext.rfl' _)
  refine WX.two (i := 3) (j := 5) (by kernel_rfl) rfl rfl rfl rfl (stp_box (l := szl wd mx) rfl rfl) rfl rfl rfl rfl (stp_call rfl (c_build' (hp.ext x02) hV hwd (hd.ext x02) fun b hb => by omega)) ?_ ?_
  · rintro _ w3 ⟨pb, rfl, n3⟩
    refine ⟨fun h => h.ext' n3.ext, ?_⟩
    have x03 := x02.trans n3.ext
    have z3 := n3.ext.size
    have hpb := n3.has
    refine WX.lin rR rT [(5, .l), (7, .l), (8, .l), (9, .q)] (by kernel_rfl) (by kernel_rfl) rfl ?_
    refine WR.stp rfl rfl rfl rfl (stp_call rfl (c_build' (hp.ext x03) hV hwd (hd.ext x03) fun b hb => by omega)) ?_
    rintro _ w4 ⟨K, s, bb, rfl, hKD, hKN, x4, hB⟩
    refine ⟨fun h => h.ext' x4, ?_⟩
    have x04 := x03.trans x4
    have z4 := x4.size
    subst hKD
    refine WR.stp rfl rfl rfl rfl (stp_call rfl (c_of hB (p := fun b => b < w.heap.size) (cs := tyc t a1 c1) (t := t) ((TyV.of_tys ht).ext x04) (fun b hb => ⟨by omega, by omega⟩) ⟨true, hT.sh⟩ hT.lg (by show _ ≤ 268435456; omega))) ?_
    rintro _ w5 ⟨s5, hg5, st5, hB5, rt5, T, rb, rfl⟩
    refine ⟨fun h => Has.sta st5 h, ?_⟩
    have x05 := ext_sta x04 (by omega) st5
    have hpb5 := Has.sta st5 (hpb.ext' x4)
    refine WR.stp rfl rfl rfl rfl (stp_call rfl (last w5 K s5 pb T rb rfl x05 hB5.ic hB5.bi.sll hpb5 rt5)) ?_
    rintro r w6 ⟨hr, x6⟩
    refine ⟨fun h => h.ext' x6, ?_⟩
    refine WR.yld rR rfl rfl rfl rfl (fun w' _ => zyl) ?_
    refine WR.nilk ?_
    refine zst ?_
    exact fin1 (.inl rfl) rfl rfl ⟨hr, x05.trans x6⟩
  · rintro _ w3 ⟨K, s, bb, rfl, hKD, hKN, x3, hB⟩
    refine ⟨fun h => h.ext' x3, ?_⟩
    have x03 := x02.trans x3
    have z3 := x3.size
    subst hKD
    refine WX.two (i := 3) (j := 7) (by kernel_rfl) rfl rfl rfl rfl (stp_box (l := szl wd mx) rfl rfl) rfl rfl rfl rfl (stp_call rfl (c_of hB (p := fun b => b < w.heap.size) (cs := tyc t a1 c1) (t := t) ((TyV.of_tys ht).ext x03) (fun b hb => ⟨by omega, by omega⟩) ⟨true, hT.sh⟩ hT.lg (by show _ ≤ 268435456; omega))) ?_ ?_
    · rintro _ w4 ⟨pb, rfl, n4⟩
      refine ⟨fun h => h.ext' n4.ext, ?_⟩
      have x04 := x03.trans n4.ext
      have z4 := n4.ext.size
      refine WX.lin rR rT [(7, .l), (8, .l), (9, .q)] (by kernel_rfl) (by kernel_rfl) rfl ?_
      refine WR.stp rfl rfl rfl rfl (stp_call rfl (c_of (hB.ext n4.ext) (p := fun b => b < w.heap.size) (cs := tyc t a1 c1) (t := t) ((TyV.of_tys ht).ext x04) (fun b hb => ⟨by omega, by omega⟩) ⟨true, hT.sh⟩ hT.lg (by show _ ≤ 268435456; omega))) ?_
      rintro _ w5 ⟨s5, hg5, st5, hB5, rt5, T, rb, rfl⟩
      refine ⟨fun h => Has.sta st5 h, ?_⟩
      have x05 := ext_sta x04 (by omega) st5
      have hpb5 := Has.sta st5 n4.has
      refine WR.stp rfl rfl rfl rfl (stp_call rfl (last w5 K s5 pb T rb rfl x05 hB5.ic hB5.bi.sll hpb5 rt5)) ?_
      rintro r w6 ⟨hr, x6⟩
      refine ⟨fun h => h.ext' x6, ?_⟩
      refine WR.yld rR rfl rfl rfl rfl (fun w' _ => zyl) ?_
      refine WR.nilk ?_
      refine zst ?_
      exact fin1 (.inl rfl) rfl rfl ⟨hr, x05.trans x6⟩
    · rintro _ w4 ⟨s4, hg4, st4, hB4, rt4, T, rb, rfl⟩
      refine ⟨fun h => Has.sta st4 h, ?_⟩
      have x04 := ext_sta x03 (by omega) st4
      refine WX.lin rR rT [(3, .l), (8, .l), (9, .q)] (by kernel_rfl) (by kernel_rfl) rfl ?_
      refine WR.stp rfl rfl rfl rfl (stp_box (l := szl wd mx) rfl rfl) ?_
      rintro _ w5 ⟨pb, rfl, n5⟩
      refine ⟨fun h => h.ext' n5.ext, ?_⟩
      have x05 := x04.trans n5.ext
      refine WR.stp rfl rfl rfl rfl (stp_call rfl (last w5 K s4 pb T rb rfl x05 (hB4.ic.ext n5.ext) (fun d hd => by have := hB4.bi.sll d hd; have := n5.ext.size; omega) n5.has (rt4.ext n5.ext))) ?_
      rintro r w6 ⟨hr, x6⟩
      refine ⟨fun h => h.ext' x6, ?_⟩
      refine WR.yld rR rfl rfl rfl rfl (fun w' _ => zyl) ?_
      refine WR.nilk ?_
      refine zst ?_
      exact fin1 (.inl rfl) rfl rfl ⟨hr, x05.trans x6⟩
set_option maxHeartbeats 2000000 in
theorem c_iAlignof {D : List De} {t : Ty} {sz al : Int} {a : Option Addr} {cp : Nat} {a1 : Option Addr} {c1 : Nat} {w : World} {wd mx : Int} (hp : Prp w) (hbz : Bsz w) (hW : OkW wd mx) (hV : ValidD D) (hT : ValidT D t) (hwd : wtD D ≤ 16777216) (hwt : wt t ≤ 16777216) (hRD : RngD D) (hR : Rng t) (hz : Sz D wd mx t sz al) (hd : DsV w (fun b => b < w.heap.size) (.slice a D.length cp) D) (ht : TysV w (fun b => b < w.heap.size) a1 c1 t.elems) :
    Calls Tryz.prog 18 #[.slice a D.length cp, .int .i64 wd, .int .i64 mx, .agg (tyc t a1 c1).toArray] w (Ret fun r w' => r = .int .i64 al ∧ Ext w w') := by
  refine W.enter (args := [.slice a D.length cp, .int .i64 wd, .int .i64 mx, .agg (tyc t a1 c1).toArray]) Tryz.func18 rfl Tryz.ntmps18 rfl rfl ?_
  refine zst ?_
  refine WU.stp rfl rfl rfl (by first | exact stp_box rfl rfl | exact stp_box1 rfl rfl) ?_
  rintro _ w1 ⟨b1, rfl, n1⟩
  refine zst ?_
  have ib1 : Has w1 b1 (.cells (tyc t a1 c1).toArray 26) := n1.has
  have rR : ∀ w : World, Kp b1 t a1 c1 w w := fun w h => h
  have rT : ∀ u v x : World, Kp b1 t a1 c1 u v → Kp b1 t a1 c1 v x → Kp b1 t a1 c1 u x := fun _ _ _ h k x => k (h x)
  refine W.regX2 (Kp b1 t a1 c1) ?_
  intro w2 x2 _
  have ib2 := ib1.ext' x2
  have x02 : Ext w w2 := n1.ext.trans x2
  have z02 := x02.size
  have hb1 := ib1.lt
  clear n1
  refine WX.q rR rT 0 (by kernel_rfl) (by kernel_rfl) (by kernel_rfl) rfl rfl rfl rfl (fun w' _ => zyl) ?_
  refine WX.q rR rT 1 (by kernel_rfl) (by kernel_rfl) (by kernel_rfl) rfl rfl rfl rfl (fun w' _ => zyl) ?_
  refine WX.q rR rT 2 (by kernel_rfl) (by kernel_rfl) (by kernel_rfl) rfl rfl rfl rfl (fun w' _ => zyl) ?_
  refine WX.q rR rT 4 (by kernel_rfl) (by kernel_rfl) (by kernel_rfl) rfl rfl rfl rfl (fun w' _ => zyl) ?_
  refine WX.q rR rT 6 (by kernel_rfl) (by kernel_rfl) (by kernel_rfl) rfl rfl rfl rfl (fun w' hk => by have i1 := hk ib2; exact yld_load_cells rfl (Cells.has i1)) ?_
  have hgd := hT.good hwt
  -- what is done at the end
  have last : ∀ (w5 : World) (K : Cfg) (s : Gs) (pb T rb : Nat), K.D = D → Ext w w5 → IC K s w5 → (∀ d, s.sl d → d < w5.heap.size) → Has w5 pb (.cells (szl wd mx).toArray 65) → RT K s w5 s.sl (.iface T (pt rb)) t →
      Calls Tryz.prog 43 #[pt pb, .iface T (pt rb)] w5 (Ret fun r w' => r = .int .i64 al ∧ Ext w5 w') := fun w5 K s pb T rb hKD x5 ic hsl hpb hrt => by
    subst hKD
    have hS : StC K s w5 pb wd mx := ⟨ic, hsl, hbz.ext x5, hpb, hW⟩
    exact (c_gSzAl hS hRD hz hgd hR).2 _ w5 hrt (Ext.rfl' _)
  refine WX.two (i := 3) (j := 5) (by kernel_rfl) rfl rfl rfl rfl (stp_box (l := szl wd mx) rfl rfl) rfl rfl rfl rfl (stp_call rfl (c_build' (hp.ext x02) hV hwd (hd.ext x02) fun b hb => by omega)) ?_ ?_
  · rintro _ w3 ⟨pb, rfl, n3⟩
    refine ⟨fun h => h.ext' n3.ext, ?_⟩
    have x03 := x02.trans n3.ext
    have z3 := n3.ext.size
    have hpb := n3.has
    refine WX.lin rR rT [(5, .l), (7, .l), (8, .l), (9, .q)] (by kernel_rfl) (by kernel_rfl) rfl ?_
    refine WR.stp rfl rfl rfl rfl (stp_call rfl (c_build' (hp.ext x03) hV hwd (hd.ext x03) fun b hb => by omega)) ?_
    rintro _ w4 ⟨K, s, bb, rfl, hKD, hKN, x4, hB⟩
    refine ⟨fun h => h.ext' x4, ?_⟩
    have x04 := x03.trans x4
    have z4 := x4.size
    subst hKD
    refine WR.stp rfl rfl rfl rfl (stp_call rfl (c_of hB (p := fun b => b < w.heap.size) (cs := tyc t a1 c1) (t := t) ((TyV.of_tys ht).ext x04) (fun b hb => ⟨by omega, by omega⟩) ⟨true, hT.sh⟩ hT.lg (by show _ ≤ 268435456; omega))) ?_
    rintro _ w5 ⟨s5, hg5, st5, hB5, rt5, T, rb, rfl⟩
    refine ⟨fun h => Has.sta st5 h, ?_⟩
    have x05 := ext_sta x04 (by omega) st5
    have hpb5 := Has.sta st5 (hpb.ext' x4)
    refine WR.stp rfl rfl rfl rfl (stp_call rfl (last w5 K s5 pb T rb rfl x05 hB5.ic hB5.bi.sll hpb5 rt5)) ?_
    rintro r w6 ⟨hr, x6⟩
    refine ⟨fun h => h.ext' x6, ?_⟩
    refine WR.yld rR rfl rfl rfl rfl (fun w' _ => zyl) ?_
    refine WR.nilk ?_
    refine zst ?_
    exact fin1 (.inl rfl) rfl rfl ⟨hr, x05.trans x6⟩
  · rintro _ w3 ⟨K, s, bb, rfl, hKD, hKN, x3, hB⟩
    refine ⟨fun h => h.ext' x3, ?_⟩
    have x03 := x02.trans x3
    have z3 := x3.size
    subst hKD
    refine WX.two (i := 3) (j := 7) (by kernel_rfl) rfl rfl rfl rfl (stp_box (l := szl wd mx) rfl rfl) rfl rfl rfl rfl (stp_call rfl (c_of hB (p := fun b => b < w.heap.size) (cs := tyc t a1 c1) (t := t) ((TyV.of_tys ht).ext x03) (fun b hb => ⟨by omega, by omega⟩) ⟨true, hT.sh⟩ hT.lg (by show _ ≤ 268435456; omega))) ?_ ?_
    · rintro _ w4 ⟨pb, rfl, n4⟩
      refine ⟨fun h => h.ext' n4.ext, ?_⟩
      have x04 := x03.trans n4.ext
      have z4 := n4.ext.size
      refine WX.lin rR rT [(7, .l), (8, .l), (9, .q)] (by kernel_rfl) (by kernel_rfl) rfl ?_
      refine WR.stp rfl rfl rfl rfl (stp_call rfl (c_of (hB.ext n4.ext) (p := fun b => b < w.heap.size) (cs := tyc t a1 c1) (t := t) ((TyV.of_tys ht).ext x04) (fun b hb => ⟨by omega, by omega⟩) ⟨true, hT.sh⟩ hT.lg (by show _ ≤ 268435456; omega))) ?_
      rintro _ w5 ⟨s5, hg5, st5, hB5, rt5, T, rb, rfl⟩
      refine ⟨fun h => Has.sta st5 h, ?_⟩
      have x05 := ext_sta x04 (by omega) st5
      have hpb5 := Has.sta st5 n4.has
      refine WR.stp rfl rfl rfl rfl (stp_call rfl (last w5 K s5 pb T rb rfl x05 hB5.ic hB5.bi.sll hpb5 rt5)) ?_
      rintro r w6 ⟨hr, x6⟩
      refine ⟨fun h => h.ext' x6, ?_⟩
      refine WR.yld rR rfl rfl rfl rfl (fun w' _ => zyl) ?_
      refine WR.nilk ?_
      refine zst ?_
      exact fin1 (.inl rfl) rfl rfl ⟨hr, x05.trans x6⟩
    · rintro _ w4 ⟨s4, hg4, st4, hB4, rt4, T, rb, rfl⟩
      refine ⟨fun h => Has.sta st4 h, ?_⟩
      have x04 := ext_sta x03 (by omega) st4
      refine WX.lin rR rT [(3, .l), (8, .l), (9, .q)] (by kernel_rfl) (by kernel_rfl) rfl ?_
      refine WR.stp rfl rfl rfl rfl (stp_box (l := szl wd mx) rfl rfl) ?_
      rintro _ w5 ⟨pb, rfl, n5⟩
      refine ⟨fun h => h.ext' n5.ext, ?_⟩
      have x05 := x04.trans n5.ext
      refine WR.stp rfl rfl rfl rfl (stp_call rfl (last w5 K s4 pb T rb rfl x05 (hB4.ic.ext n5.ext) (fun d hd => by have := hB4.bi.sll d hd; have := n5.ext.size; omega) n5.has (rt4.ext n5.ext))) ?_
      rintro r w6 ⟨hr, x6⟩
      refine ⟨fun h => h.ext' x6, ?_⟩
      refine WR.yld rR rfl rfl rfl rfl (fun w' _ => zyl) ?_
      refine WR.nilk ?_
      refine zst ?_
      exact fin1 (.inl rfl) rfl rfl ⟨hr, x05.trans x6⟩
end Go.Proofs.YtpiegpegjbmlkaaGreatDoor
namespace Go.Kd

/-- an operation of a drawn region: its number, where its result goes, what holds of the result from then on; B: the new blocks that it made for the result -/
structure Tsk where
  i : Nat
  d : Nat
  o : Oper
  B : Value → Nat → Prop
  F : Value → World → Prop
def AllT (p : Tsk → Prop) : List Tsk → Prop
  | [] => True
  | t :: T => p t ∧ AllT p T
theorem AllT.mem {p : Tsk → Prop} : ∀ {T : List Tsk}, AllT p T → ∀ t ∈ T, p t
  | [], _, _, h => by cases h
  | _ :: _, h, t, ht => by
    rcases List.mem_cons.1 ht with rfl | ht
    · exact h.1
    · exact AllT.mem h.2 t ht
def nodupB : List Nat → Bool
  | [] => true
  | a :: l => !l.contains a && nodupB l
theorem eq_of_nodupB {f : Tsk → Nat} : ∀ {T : List Tsk}, nodupB (T.map f) = true → ∀ t ∈ T, ∀ t' ∈ T, f t = f t' → t = t'
  | [], _, _, h, _, _, _ => by cases h
  | a :: T, h, t, ht, t', ht', he => by
    simp only [List.map_cons, nodupB, Bool.and_eq_true, Bool.not_eq_true', List.contains_eq_mem, decide_eq_false_iff_not] at h
    rcases List.mem_cons.1 ht with h1 | h1 <;> rcases List.mem_cons.1 ht' with h2 | h2
    · rw [h1, h2]
    · exact absurd (List.mem_map.2 ⟨t', h2, by rw [← h1]; exact he.symm⟩) h.1
    · exact absurd (List.mem_map.2 ⟨t, h1, by rw [← h2]; exact he⟩) h.1
    · exact eq_of_nodupB h.2 t h1 t' h2 he
/-- what is to be shown behind them -/
def ContT (w : World) : (Env → Prop) → List Tsk → List (Nat → Prop) → Env → Prop
  | K, [], _, e => K e
  | K, t :: T, acc, e => ∀ v, t.F v w → (∀ q ∈ acc, ∀ b, q b → ¬ t.B v b) → ContT w (fun e' => K ((t.d, v) :: e')) T (t.B v :: acc) e
/-- whatever order is drawn: those of the list are the ones that come -/
def freeOk (ops : Array Oper) (target : Array Bool) : Nat → List Nat → Array Bool → Bool
  | 0, _, L => L == target
  | m + 1, rem, L => !(Region.ready .any ops L).isEmpty && (Region.ready .any ops L).all fun i => rem.contains i && freeOk ops target m (rem.erase i) (L.setIfInBounds i true)
theorem ContT.use {w : World} {e' : Env} (T0 : List Tsk) (hd : ∀ t ∈ T0, ∃ v, lk e' t.d = some v ∧ t.F v w) (hS : ∀ t ∈ T0, ∀ t' ∈ T0, t.d ≠ t'.d → ∀ v v', lk e' t.d = some v → lk e' t'.d = some v' → ∀ b, t.B v b → ¬ t'.B v' b) :
    ∀ (T : List Tsk) (K : Env → Prop) (acc : List (Nat → Prop)) (e : Env), (∀ t ∈ T, t ∈ T0) → nodupB (T.map (·.d)) = true → (∀ q ∈ acc, ∃ t ∈ T0, ∃ u, q = t.B u ∧ lk e' t.d = some u ∧ t.d ∉ T.map (·.d)) → (∀ i u, lk e i = some u → lk e' i = some u) → ContT w K T acc e → ∃ e1, (∀ i u, lk e1 i = some u → lk e' i = some u) ∧ K e1
  | [], K, acc, e, _, _, _, he, h => ⟨e, he, h⟩
  | t :: T, K, acc, e, hT, hn, ha, he, h => by
    have ht0 := hT t (List.mem_cons_self ..)
    obtain ⟨v, hv, hF⟩ := hd t ht0
    simp only [List.map_cons, nodupB, Bool.and_eq_true, Bool.not_eq_true', List.contains_eq_mem, decide_eq_false_iff_not] at hn
    obtain ⟨e1, h1, h2⟩ := ContT.use T0 hd hS T (fun e' => K ((t.d, v) :: e')) _ e (fun t' ht' => hT t' (List.mem_cons_of_mem _ ht')) hn.2 (fun q hq => by
      rcases List.mem_cons.1 hq with rfl | hq
      · exact ⟨t, ht0, v, rfl, hv, hn.1⟩
      · obtain ⟨r, q1, u, q2, q3, q4⟩ := ha q hq
        exact ⟨r, q1, u, q2, q3, fun hm => q4 (List.mem_cons_of_mem _ hm)⟩) he (h v hF fun q hq b hb => by
      obtain ⟨r, q1, u, rfl, q3, q4⟩ := ha q hq
      exact hS r q1 t ht0 (fun hd => q4 (by rw [hd]; exact List.mem_cons_self ..)) u v q3 hv b hb)
    refine ⟨(t.d, v) :: e1, fun i u hiu => ?_, h2⟩
    rw [lk_cons] at hiu
    split at hiu
    · rename_i hi
      rw [← hi, ← hiu]; exact hv
    · exact h1 i u hiu
section
variable {P : Program} {n : Nat} {ops : List Oper} {Q : Post} {D : List Deferred} {e : Env} {w : World}
theorem WT.sub {L : Array Bool} {k : Nat} {e' : Env} (hs : ∀ i v, lk e i = some v → lk e' i = some v) (h : WT P n ops Q L k D e w) : WT P n ops Q L k D e' w := ⟨fun hcl a ha => h.out hcl a (ha.sub hs)⟩
theorem WT.free (T : List Tsk) (k : Nat) {m : Nat} {L0 : Array Bool} (L1 : Array Bool) (hkm : (k + T.length == m) = true) (hok : freeOk ops.toArray L1 T.length (T.map (·.i)) L0 = true) (hni : nodupB (T.map (·.i)) = true) (hnd : nodupB (T.map (·.d)) = true)
    (hi : AllT (fun t => ops[t.i]? = some t.o ∧ t.o.dst = some t.d ∧ Nat.blt t.d n = true ∧ wn ops e t.o.guard = some true ∧ lk e t.d = none) T)
    (hs : AllT (fun t => ∀ w', Ext w w' → Stp P e t.o w' (fun v w'' => Ext w' w'' ∧ t.F v w'' ∧ ∀ b, t.B v b → w'.heap.size ≤ b)) T)
    (hm : AllT (fun t => (∀ v w1 w2, Ext w1 w2 → t.F v w1 → t.F v w2) ∧ ∀ v w1, t.F v w1 → ∀ b, t.B v b → b < w1.heap.size) T)
    (hk : ∀ w', Ext w w' → ContT w' (fun e' => WT P n ops Q L1 k D e' w') T [] e) : WT P n ops Q L0 m D e w := by
  obtain rfl : k + T.length = m := by simpa using hkm
  have hi := hi.mem
  have hs := hs.mem
  have hm := hm.mem
  have uI := eq_of_nodupB (f := (·.i)) hni
  have uD := eq_of_nodupB (f := (·.d)) hnd
  have main : ∀ (m : Nat) (rem : List Nat) (L : Array Bool) (e' : Env) (w' : World), freeOk ops.toArray L1 m rem L = true → rem.length = m → (∀ i ∈ rem, ∃ t ∈ T, t.i = i) →
      (∀ t ∈ T, t.i ∈ rem ∨ ∃ v, lk e' t.d = some v ∧ t.F v w') → (∀ t ∈ T, ∀ t' ∈ T, t.i ∉ rem → t'.i ∉ rem → t.d ≠ t'.d → ∀ v v', lk e' t.d = some v → lk e' t'.d = some v' → ∀ b, t.B v b → ¬ t'.B v' b) →
      (∀ i v, lk e i = some v → lk e' i = some v) → Ext w w' → WT P n ops Q L (k + m) D e' w' := by
    intro m
    induction m with
    | zero =>
      intro rem L e' w' h1 h2 _ h4 hS h5 hx
      obtain rfl : rem = [] := List.length_eq_zero_iff.1 h2
      obtain rfl : L = L1 := by simpa [freeOk] using h1
      obtain ⟨e1, q1, q2⟩ := ContT.use T (fun t ht => (h4 t ht).resolve_left (by simp)) (fun t ht t' ht' => hS t ht t' ht' (by simp) (by simp)) T _ [] e (fun _ h => h) hnd (fun u hu => absurd hu List.not_mem_nil) h5 (hk w' hx)
      exact q2.sub q1
    | succ m ih =>
      intro rem L e' w' h1 h2 h3 h4 hS h5 hx
      unfold freeOk at h1
      simp only [Bool.and_eq_true, Bool.not_eq_true', List.all_eq_true, List.isEmpty_eq_false_iff] at h1
      obtain ⟨hne, hall⟩ := h1
      refine ⟨fun hcl a ha => ⟨fun h0 => absurd h0 hne, fun i hir => ?_⟩⟩
      obtain ⟨hc, hf⟩ := hall i hir
      have hmem : i ∈ rem := by simpa using hc
      obtain ⟨t, ht, rfl⟩ := h3 i hmem
      obtain ⟨q1, q2, q3, q4, q5⟩ := hi t ht
      have q1' : ops.toArray[t.i]? = some t.o := by simpa using q1
      have ha0 : Fr n D e a := ha.sub h5
      unfold wpOp
      simp only [q1']
      rw [wn_spec q4 ha0, if_pos rfl]
      refine .inl (upon_of_stp ha0 (hs t ht w' hx) fun v w'' ⟨hx', hF, hfr⟩ => ⟨.inl hx', ?_⟩)
      have hp : Fr n D ((t.d, v) :: e') (a.put t.o.dst v) := by rw [q2]; exact ha.put (by simpa [Nat.blt_eq] using q3) v
      have old : ∀ t' ∈ T, t'.i ∉ rem.erase t.i → t'.i ≠ t.i → t'.i ∉ rem := fun t' _ h hne hm' => h ((List.mem_erase_of_ne hne).2 hm')
      have oth : ∀ t' ∈ T, t'.i ≠ t.i → ∀ u, lk ((t.d, v) :: e') t'.d = some u → lk e' t'.d = some u := fun t' ht' hne u h => by
        rwa [lk_cons, if_neg fun hd => hne (by rw [uD t ht t' ht' hd])] at h
      have new : ∀ t' ∈ T, t'.i ∉ rem.erase t.i → t'.i ≠ t.i → ∀ u, lk ((t.d, v) :: e') t'.d = some u → ∀ b, t'.B u b → ¬ t.B v b := fun t' ht' hr hne u hu b hb hb' => by
        have h6 := oth t' ht' hne u hu
        obtain ⟨u', h7, h8⟩ := (h4 t' ht').resolve_left (old t' ht' hr hne)
        rw [h6] at h7
        cases h7
        have := (hm t' ht').2 u w' h8 b hb
        have := hfr b hb'
        omega
      refine (ih (rem.erase t.i) (L.setIfInBounds t.i true) ((t.d, v) :: e') w'' hf (by rw [List.length_erase_of_mem hmem, h2]; rfl) (fun i hi' => h3 i (List.mem_of_mem_erase hi')) (fun t' ht' => ?_) (fun t1 ht1 t2 ht2 r1 r2 hne v1 v2 l1 l2 => ?_) (fun i u hiu => ?_) (hx.trans hx')).out (hcl.step hir) _ hp
      · by_cases he : t'.i = t.i
        · obtain rfl := uI t' ht' t ht he
          exact .inr ⟨v, by rw [lk_cons, if_pos rfl], hF⟩
        · rcases h4 t' ht' with h | ⟨u, h6, h7⟩
          · exact .inl ((List.mem_erase_of_ne he).2 h)
          · refine .inr ⟨u, ?_, (hm t' ht').1 u w' w'' hx' h7⟩
            rw [lk_cons, if_neg fun hd => he (by rw [uD t ht t' ht' hd])]
            exact h6
      · by_cases e1 : t1.i = t.i
        · obtain rfl := uI t1 ht1 t ht e1
          have e2 : t2.i ≠ t1.i := fun h => hne (by rw [uI t2 ht2 t1 ht1 h])
          rw [lk_cons, if_pos rfl] at l1
          cases l1
          exact fun b hb hb' => new t2 ht2 r2 e2 v2 l2 b hb' hb
        · by_cases e2 : t2.i = t.i
          · obtain rfl := uI t2 ht2 t ht e2
            rw [lk_cons, if_pos rfl] at l2
            cases l2
            exact fun b => new t1 ht1 r1 e1 v1 l1 b
          · exact hS t1 ht1 t2 ht2 (old t1 ht1 r1 e1) (old t2 ht2 r2 e2) hne v1 v2 (oth t1 ht1 e1 v1 l1) (oth t2 ht2 e2 v2 l2)
      · rw [lk_cons, if_neg fun hd => by rw [← hd, q5] at hiu; cases hiu]
        exact h5 i u hiu
  exact main T.length (T.map (·.i)) L0 e w hok (by simp) (fun i hi => by simpa using hi) (fun t ht => .inl (List.mem_map_of_mem ht)) (fun t ht t' ht' r1 => absurd (List.mem_map_of_mem ht) r1) (fun _ _ h => h) (Ext.rfl' w)
end
end Go.Kd

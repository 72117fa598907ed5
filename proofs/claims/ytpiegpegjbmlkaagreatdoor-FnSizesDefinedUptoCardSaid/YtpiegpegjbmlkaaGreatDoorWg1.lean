/- The walks and the plain laws, part 1. -/
import Derived.Test.YtpiegpegjbmlkaaGreatDoorZ1
import Derived.Test.YtpiegpegjbmlkaaGreatDoorZ5
import Derived.Test.YtpiegpegjbmlkaaGreatDoorZ6
namespace Go.Proofs.YtpiegpegjbmlkaaGreatDoor
open Go Go.Kd

section
variable {D E : List De}
theorem decl_app {t : Ty} (h : t.kind = 1 → 0 ≤ t.n ∧ t.n < D.length) : decl (D ++ E) t = decl D t := by
  unfold decl
  split
  · rename_i hk
    obtain ⟨h0, h1⟩ := h hk
    rw [List.getElem?_append_left (by omega)]
  · rfl
theorem isAl_app {t : Ty} (h : t.kind = 1 → 0 ≤ t.n ∧ t.n < D.length) : isAl (D ++ E) t = isAl D t := by unfold isAl; rw [decl_app h]
theorem unal1_app {t : Ty} (h : Good D t) : unal1 (D ++ E) t = unal1 D t := by unfold unal1; rw [decl_app h.named]
theorem rep_unal_app (hD : OkD D) {t : Ty} (h : Good D t) : ∀ k, rep (unal1 (D ++ E)) k t = rep (unal1 D) k t
  | 0 => rfl
  | k + 1 => by
    show unal1 (D ++ E) (rep (unal1 (D ++ E)) k t) = unal1 D (rep (unal1 D) k t)
    rw [rep_unal_app hD h k]
    exact unal1_app (h.rep_unal hD k)
theorem unal_end (hD : OkD D) {t : Ty} (h : Good D t) : isAl D (rep (unal1 D) D.length t) = false := by
  cases ha : isAl D t with
  | false => rw [rep_fix (unal1_id ha)]; exact ha
  | true =>
    obtain ⟨h0, h1⟩ := h.named (isAl_kind ha)
    obtain ⟨j, e, _, _, _, h5, h6⟩ := unalias_al hD.sh D.length t (Nat.le_refl _) ha h1 h0
    rw [h6]; exact h5
theorem unalias_app (hD : OkD D) {t : Ty} (h : Good D t) : unaliasT (D ++ E) t = unaliasT D t := by
  unfold unaliasT
  rw [rep_unal_app hD h, List.length_append, rep_add, rep_fix (unal1_id (unal_end hD h))]
theorem und1_app (hD : OkD D) {t : Ty} (h : Good D t) : und1 (D ++ E) t = und1 D t := by
  unfold und1
  rw [decl_app h.named]
  split
  · rename_i e he
    have hk : t.kind = 1 := by
      refine Classical.byContradiction fun hk => ?_
      rw [decl_none hk] at he
      cases he
    unfold decl at he
    rw [if_pos hk] at he
    exact unalias_app hD (Good.of_D hD he)
  · rfl
theorem rep_und_app (hD : OkD D) {t : Ty} (h : Good D t) : ∀ k, rep (und1 (D ++ E)) k t = rep (und1 D) k t
  | 0 => rfl
  | k + 1 => by
    show und1 (D ++ E) (rep (und1 (D ++ E)) k t) = und1 D (rep (und1 D) k t)
    rw [rep_und_app hD h k]
    exact und1_app hD (h.rep_und hD k)
theorem und_end (hD : OkD D) {t : Ty} (h : Good D t) : (rep (und1 D) D.length t).kind ≠ 1 := by
  by_cases hk : t.kind = 1
  · obtain ⟨h0, h1⟩ := h.named hk
    obtain ⟨j, e, _, _, h5, h6⟩ := und_nm hD.sh D.length t (Nat.le_refl _) hk h1 h0
    rw [h6]; exact norm_kind_ne h5
  · rw [rep_fix (und1_lit hk)]; exact hk
theorem under_app (hD : OkD D) {t : Ty} (h : Good D t) : underT (D ++ E) t = underT D t := by
  unfold underT
  rw [unalias_app hD h, rep_und_app hD (h.unalias hD), List.length_append, rep_add, rep_fix (und1_lit (und_end hD (h.unalias hD)))]
theorem Shaped.app {i : Nat} {v : Bool} {t : Ty} (h : Shaped D i v t) : Shaped (D ++ E) i v t := by
  induction h with
  | mk v t s _ ih =>
    by_cases hk : t.kind = 1
    · have h0 := s.n0 (by rw [hk]; simp [limitN]; try omega)
      have h1 := s.n1 (by rw [hk]; simp [limitN])
      rw [hk] at h1
      simp [limitN] at h1
      refine .mk v t ⟨s.lo, s.hi, s.len, fun _ => h0, fun _ => ?_, fun _ hv => s.nm hk (by rwa [isAl_app fun _ => ⟨h0, h1⟩] at hv), s.c0, s.c1, s.vr, s.mth⟩ ih
      rw [hk]
      simp [limitN]
      omega
    · have hl : limitN (D ++ E) t.kind = limitN D t.kind := by simp [limitN, hk]
      exact .mk v t ⟨s.lo, s.hi, s.len, fun h => s.n0 (by rwa [hl] at h), fun h => by rw [hl] at h ⊢; exact s.n1 h, fun h => absurd h hk, s.c0, s.c1, s.vr, s.mth⟩ ih
theorem im_app (hD : OkD D) {t : Ty} {ms : List Mt} (h : IM D t ms) : Good D t → IM (D ++ E) t ms := by
  induction h with
  | no t hk => exact fun hG => .no t (by rw [under_app hD hG]; exact hk)
  | yes t L h9 hl h1 h2 ih =>
    intro hG
    have hu := under_app (E := E) hD hG
    have := IM.yes (D := D ++ E) t L (by rw [hu]; exact h9) (by rw [hu]; exact hl) (by rw [hu]; exact h1) (by rw [hu]; exact fun i e l he hL hc => ih i e l he hL hc ((hG.under hD).el he))
    rw [hu] at this
    exact this
theorem exp_app (hD : OkD D) {t : Ty} {x : X} (h : Exp D t x) : Good D t → Exp (D ++ E) t x := by
  induction h with
  | leaf t hk =>
    intro hG
    have hu := unalias_app (E := E) hD hG
    have := Exp.leaf (D := D ++ E) t (by rw [hu]; exact hk)
    rw [hu] at this
    exact this
  | plain t es h2 h8 hl _ ih =>
    intro hG
    have hu := unalias_app (E := E) hD hG
    have := Exp.plain (D := D ++ E) t es (by rw [hu]; exact h2) (by rw [hu]; exact h8) (by rw [hu]; exact hl) (by rw [hu]; exact fun i e x he hx => ih i e x he hx ((hG.unalias hD).el he))
    rw [hu] at this
    exact this
  | iface t ms es h9 hm hl _ ih =>
    intro hG
    have hu := unalias_app (E := E) hD hG
    exact .iface t ms es (by rw [hu]; exact h9) (by rw [hu]; exact im_app hD hm (hG.unalias hD)) hl fun i m x hi hx => ih i m x hi hx (IM_good hD hm (hG.unalias hD) m (List.mem_of_getElem? hi))
theorem cmp_app (hD : OkD D) {t : Ty} {b : Bool} (h : Cmp D t b) : Good D t → Cmp (D ++ E) t b := by
  induction h with
  | no t hk => exact fun hG => .no t (by rw [under_app hD hG]; exact hk)
  | yes t hk => exact fun hG => .yes t (by rw [under_app hD hG]; exact hk)
  | all t bs hk hl _ ih =>
    intro hG
    have hu := under_app (E := E) hD hG
    exact .all t bs (by rw [hu]; exact hk) (by rw [hu]; exact hl) (by rw [hu]; exact fun i e b he hb => ih i e b he hb ((hG.under hD).el he))
theorem mayEmb_app (hD : OkD D) {t e : Ty} (hG : Good D t) (h : MayEmb D t e) : MayEmb (D ++ E) t e := by
  have hGe : Good D e := by
    rcases h.el with ⟨_, h1⟩ | ⟨_, rfl⟩
    · exact hG.el h1
    · exact hG
  have hu := under_app (E := E) hD hGe
  refine ⟨h.el, h.kd, ?_, by rw [hu]; exact h.np, by rw [hu]; exact h.nu, by rw [hu]; exact h.ni⟩
  rw [h.nm]
  unfold typeNm
  split
  · rename_i hk
    obtain ⟨h0, h1⟩ := hGe.named hk
    rw [List.getElem?_append_left (by omega)]
  · rfl
theorem cons_app (hD : OkD D) {t : Ty} {all : List Mt} (hG : Good D t) (h : Cons D t all) : Cons (D ++ E) t all := by
  refine ⟨im_app hD h.im hG, fun i e he hc => by rw [under_app hD (hG.el he)]; exact h.ifc i e he hc, fun i e he hc => ?_⟩
  obtain ⟨ms, h1, h2⟩ := h.same i e he hc
  refine ⟨ms, im_app hD h1 (hG.el he), fun m hm n hn => ?_⟩
  obtain ⟨x, y, h3, h4, h5⟩ := h2 m hm n hn
  exact ⟨x, y, exp_app hD h3 (IM_good hD h1 (hG.el he) m hm), exp_app hD h4 (IM_good hD h.im hG n (List.mem_of_find?_eq_some hn)), h5⟩
theorem legal_app (hD : OkD D) {t : Ty} (h : Legal D t) : Good D t → Legal (D ++ E) t := by
  induction h with
  | mk t _ ha ih =>
    intro hG
    exact .mk t (fun i e he => ih i e he (hG.el he)) ⟨fun hk k h0 => cmp_app hD (ha.map hk k h0) (hG.el h0), fun hk i e he hm => by
      obtain ⟨b, hb⟩ := ha.emb hk i e he hm
      exact ⟨b, mayEmb_app hD (hG.el he) hb⟩, ha.fld, ha.par, ha.res, ha.mth, ha.unq, fun hk => by
      obtain ⟨all, hc⟩ := ha.con hk
      exact ⟨all, cons_app hD hG hc⟩⟩
theorem mayHave_app (hD : OkD D) {e : De} (he : e ∈ D) (h : MayHave D e) : MayHave (D ++ E) e := by
  obtain ⟨i, hi⟩ := List.getElem?_of_mem he
  have hu := under_app (E := E) hD (Good.of_D hD hi)
  refine ⟨fun m hm => ?_, by rw [hu]; exact h.unq, by rw [hu]; exact h.kind⟩
  obtain ⟨h1, h2, h3, h4⟩ := h.fn m hm
  have hw : wt m.fn ≤ 16777216 := by
    have q1 := wtM_mem hm
    have q2 := wtD_mem' he
    have q3 := hD.wt
    unfold wtDe at q2
    omega
  exact ⟨h1, h2, (h3.app).up (by rw [List.length_append]; omega), legal_app hD h4 ⟨⟨_, _, Nat.le_refl _, h3⟩, hw⟩⟩
theorem valid_appD (hD : OkD D) (hV : ValidD D) {e : De} (hT : ValidT D e.ty) (hw : wt e.ty ≤ 16777216) (h1 : Ident e.name.toList ∧ e.name.toList ≠ us) (h2 : e.pkg = 0 ∨ e.pkg = 1) (h3 : MayHave (D ++ [e]) e) : ValidD (D ++ [e]) := by
  have at_ : ∀ (i : Nat) e', (D ++ [e])[i]? = some e' → D[i]? = some e' ∨ (i = D.length ∧ e' = e) := fun i e' h => by
    rcases Nat.lt_trichotomy i D.length with hi | hi | hi
    · rw [List.getElem?_append_left hi] at h; exact .inl h
    · subst hi
      rw [List.getElem?_append_right (Nat.le_refl _)] at h
      simp at h
      exact .inr ⟨rfl, h.symm⟩
    · rw [List.getElem?_eq_none (by simp; omega)] at h; cases h
  refine ⟨fun i e' h => ?_, fun i e' h => ?_, fun i e' h => ?_, fun i e' h => ?_, fun i e' h => ?_⟩
  all_goals rcases at_ i e' h with h | ⟨rfl, rfl⟩
  · exact (hV.sh i e' h).app
  · exact hT.sh.app
  · exact hV.nm i e' h
  · exact h1
  · exact hV.pkg i e' h
  · exact h2
  · exact legal_app hD (hV.lg i e' h) (Good.of_D hD h)
  · exact legal_app hD hT.lg (hT.good hw)
  · exact mayHave_app hD (List.mem_of_getElem? h) (hV.ms i e' h)
  · exact h3
end
end Go.Proofs.YtpiegpegjbmlkaaGreatDoor
namespace Go.Proofs.YtpiegpegjbmlkaaGreatDoor
open Go Go.Kd

theorem uniq_nil : Uniq [] := ⟨fun i s h => by simp at h, fun i j s _ h => by simp at h⟩
def dcl (nm : ByteArray) (pk : Int) (al : Bool) (x : Ty) : De := ⟨nm, pk, al, elT x, []⟩
theorem dcl_valid {D : List De} (hD : OkD D) (hV : ValidD D) {x : Ty} (hT : ValidT D x) (hw : wt x ≤ 16777216) {nm : ByteArray} {pk : Int} {al : Bool} (hn : Ident nm.toList ∧ nm.toList ≠ us) (hp : pk = 0 ∨ pk = 1) : ValidD (D ++ [dcl nm pk al x]) := by
  have hTe : ValidT D (elT x) := (Eqv.elT x).valid hT
  have hwe : wt (elT x) ≤ 16777216 := Nat.le_trans (wt_elT x) hw
  have hGe := hTe.good hwe
  refine valid_appD hD hV (e := dcl nm pk al x) hTe hwe hn hp ⟨fun m hm => absurd hm List.not_mem_nil, ?_, fun h => absurd rfl h⟩
  show Uniq ([] ++ (if (underT (D ++ [dcl nm pk al x]) (elT x)).kind = 7 then names (underT (D ++ [dcl nm pk al x]) (elT x)).elems else []))
  rw [under_app hD hGe, List.nil_append]
  split
  · rename_i h7
    exact (legal_under hV hGe hTe.lg).here.fld h7
  · exact uniq_nil
def lastT (n : Nat) : Ty := ndT 1 n []
theorem valid_last {D : List De} {e : De} : ValidT (D ++ [e]) (lastT D.length) := by
  have hk : (lastT D.length).kind = 1 := rfl
  have hn : (lastT D.length).n = D.length := rfl
  have hel : (lastT D.length).elems = [] := rfl
  have hlen : (D ++ [e]).length = D.length + 1 := by simp
  refine ⟨.mk _ _ ⟨by omega, by omega, fun _ => rfl, fun _ => by omega, fun _ => ?_, fun _ _ => by omega, fun _ => by omega, fun _ => by omega, fun _ => by omega, fun _ => by omega⟩ fun j e he => by rw [hel] at he; simp at he, .mk _ (fun j e he => by rw [hel] at he; simp at he) ⟨fun _ => by omega, fun _ => by omega, fun _ => by omega, fun _ => by omega, fun _ => by omega, fun _ => by omega, fun _ => by omega, fun _ => by omega⟩⟩
  rw [hk, hn]
  simp [limitN]
  omega
theorem last_at {D : List De} (e : De) : (D ++ [e])[(lastT D.length).n.toNat]? = some e := by
  rw [show (lastT D.length).n.toNat = D.length from Int.toNat_natCast _]
  simp
/-- what underlies the last declaration -/
theorem under_last {D : List De} (hD : OkD D) {nm : ByteArray} {pk : Int} {al : Bool} {x : Ty} (hV : ShapedD (D ++ [dcl nm pk al x])) (hT : ValidT D x) (hw : wt x ≤ 16777216) : underT (D ++ [dcl nm pk al x]) (lastT D.length) = underT D (elT x) := by
  have hTe : ValidT D (elT x) := (Eqv.elT x).valid hT
  have hwe : wt (elT x) ≤ 16777216 := Nat.le_trans (wt_elT x) hw
  rw [under_step hV (tN_kind D.length) (last_at (dcl nm pk al x)) |> fun h => (show underT (D ++ [dcl nm pk al x]) (lastT D.length) = _ from h)]
  exact under_app hD (hTe.good hwe)
theorem wtD_one (D : List De) (e : De) : wtD (D ++ [e]) = wtD D + wtDe e := by unfold wtD; simp
end Go.Proofs.YtpiegpegjbmlkaaGreatDoor
namespace Go.Proofs.YtpiegpegjbmlkaaGreatDoor
open Go Go.Kd

theorem sz_app {D E : List De} (hD : OkD D) {wd mx : Int} {t : Ty} {s a : Int} (h : Sz D wd mx t s a) : Good D t → Sz (D ++ E) wd mx t s a := by
  induction h with
  | basic t hk => intro hG; have hu := under_app (E := E) hD hG; rw [← hu] at hk ⊢; exact .basic t hk
  | slice t hk => intro hG; have hu := under_app (E := E) hD hG; rw [← hu] at hk; exact .slice t hk
  | iface t hk => intro hG; have hu := under_app (E := E) hD hG; rw [← hu] at hk; exact .iface t hk
  | word t hk => intro hG; have hu := under_app (E := E) hD hG; rw [← hu] at hk; exact .word t hk
  | arr t e s a hk he hz ih =>
    intro hG
    have hg := (hG.under hD).el (i := 0) (by rw [he]; rfl)
    have hu := under_app (E := E) hD hG
    rw [← hu] at hk he ⊢
    exact .arr t e s a hk he (ih hg)
  | str t l hk hl hz ih =>
    intro hG
    have hg := hG.under hD
    have hu := under_app (E := E) hD hG
    have ih' : ∀ (i : Nat) e p, (underT D t).elems[i]? = some e → l[i]? = some p → Sz (D ++ E) wd mx e p.1 p.2 := fun i e p he hp => ih i e p he hp (hg.el he)
    rw [← hu] at hk hl ih'
    exact .str t l hk hl ih'
theorem sz_eqv {D : List De} {wd mx : Int} {t u : Ty} (h : Eqv t u) {s a : Int} (hz : Sz D wd mx t s a) : Sz D wd mx u s a := by
  have hu := h.under (D := D)
  cases hz with
  | basic _ hk => rw [hu.n]; exact .basic u (by rw [← hu.kd]; exact hk)
  | slice _ hk => exact .slice u (by rw [← hu.kd]; exact hk)
  | iface _ hk => exact .iface u (by rw [← hu.kd]; exact hk)
  | word _ hk => exact .word u (by rw [← hu.kd]; exact hk)
  | arr _ e s a hk he hz => rw [hu.n]; exact .arr u e s a (by rw [← hu.kd]; exact hk) (by rw [← hu.el]; exact he) hz
  | str _ l hk hl hz => exact .str u l (by rw [← hu.kd]; exact hk) (by rw [← hu.el]; exact hl) (by rw [← hu.el]; exact hz)
theorem sz_last {D : List De} (hD : OkD D) {nm : ByteArray} {pk : Int} {al : Bool} {x : Ty} (hV : ShapedD (D ++ [dcl nm pk al x])) (hT : ValidT D x) (hw : wt x ≤ 16777216) {wd mx s a : Int} (h : Sz D wd mx x s a) : Sz (D ++ [dcl nm pk al x]) wd mx (lastT D.length) s a := by
  have hTe : ValidT D (elT x) := (Eqv.elT x).valid hT
  have hwe : wt (elT x) ≤ 16777216 := Nat.le_trans (wt_elT x) hw
  have h1 : Sz D wd mx (elT x) s a := sz_eqv (Eqv.elT x) h
  refine Sz.congr ?_ (sz_app (E := [dcl nm pk al x]) hD h1 (hTe.good hwe))
  rw [under_last hD hV hT hw, under_app hD (hTe.good hwe)]
end Go.Proofs.YtpiegpegjbmlkaaGreatDoor
namespace Go.Kd
variable {P : Program} {e : Env} {w : World} {d : Option Tmp} {ty t t2 : TypeId} {pos : String} {aft : Array Edge} {g : Option (Nat × Bool)} {x y z : Operand}

theorem flatN_len {sz : Nat} : ∀ (ls : List (List Value)), (∀ l ∈ ls, l.length = sz) → ls.flatten.length = ls.length * sz
  | [], _ => by simp
  | a :: r, h => by
    rw [List.flatten_cons, List.length_append, flatN_len r fun l hl => h l (List.mem_cons_of_mem _ hl), h a (List.mem_cons_self ..), List.length_cons, Nat.succ_mul]
    omega
theorem flatN_get {sz : Nat} (hsz : 0 < sz) (ls : List (List Value)) (hl : ∀ l ∈ ls, l.length = sz) {j : Nat} {v : Value} (h : ls.flatten[j]? = some v) : ∃ l, ls[j / sz]? = some l ∧ l[j % sz]? = some v := by
  have hj := (List.getElem?_eq_some_iff.1 h).1
  rw [flatN_len ls hl] at hj
  have hi : j / sz < ls.length := Nat.div_lt_of_lt_mul (by rw [Nat.mul_comm]; exact hj)
  have hle := hl _ (List.getElem_mem hi)
  have hm : j % sz < (ls[j / sz]).length := by rw [hle]; exact Nat.mod_lt _ hsz
  have := flat_at ls hl (j / sz) _ (j % sz) _ (List.getElem?_eq_getElem hi) (List.getElem?_eq_getElem hm)
  have e : j / sz * sz + j % sz = j := by rw [Nat.mul_comm]; exact Nat.div_add_mod j sz
  rw [e, h] at this
  exact ⟨_, List.getElem?_eq_getElem hi, by rw [List.getElem?_eq_getElem hm]; exact this.symm⟩
theorem run_appendN {el sz : Nat} {zs : List Value} [hu : Und P t (.slice el)] [hz : Zro P el zs] [hi : Inf P el sz] [hb : Byt P el] {base : Nat} {v : Value} {ls rs : List (List Value)} {a : Option Addr} {c : Nat} {p : Nat → Prop}
    (ho : Own w base el sz v ls) (hs : SlC w p sz a rs.length (fun i => rs.getD i [])) (hl : ∀ r ∈ rs, r.length = sz) (hzl : zs.length = sz) (hsz : 0 < sz) (h1 : ∀ r ∈ rs, ∀ u ∈ r, u.oneCell' = true) (hn : ls.length + rs.length ≤ 1073741824) (hbase : base ≤ w.heap.size) (ha : rs = [] → a = none ∨ ∃ x, a = some x) :
    ∃ v' w', (Builtin.append_ #[t, t] ty #[v, .slice a rs.length c]).run P w = .ok v' w' ∧ Own w' base el sz v' (ls ++ rs) ∧ App w w' v ∧ (∀ g, v'.ownBlock = some g → v.ownBlock = some g ∨ g = w.heap.size) := by
  obtain ⟨i, zv, h2, h3, h4⟩ := hz.at_
  obtain ⟨i', h5, h6⟩ := hi.at_
  obtain ⟨i2, h7, h8⟩ := hb.at_
  obtain rfl : i = i' := by rw [h2] at h5; exact Option.some.inj h5
  obtain rfl : i = i2 := by rw [h2] at h7; exact Option.some.inj h7
  have main : ∀ (ad : Addr), a = some ad → (∀ j u, rs.flatten[j]? = some u → w.cell? (ad.add j) = some u) → ∃ v' w', (Builtin.append_ #[t, t] ty #[v, .slice a rs.length c]).run P w = .ok v' w' ∧ Own w' base el sz v' (ls ++ rs) ∧ App w w' v ∧ (∀ g, v'.ownBlock = some g → v.ownBlock = some g ∨ g = w.heap.size) := by
    rintro ad rfl hc
    obtain ⟨v', w', hr, k1, k2, k3, k4⟩ := run_append_own_at (P := P) w base t ty el i zv sz i.bytes hu.at_ h2 h3 h6 rfl (by rw [h4]; simpa using hzl) hsz v ls.length ls.flatten ho.row ad rs.length c rs.flatten (flatN_len rs hl)
      hc (fun u hu' => by
        obtain ⟨r, hr, hur⟩ := List.mem_flatten.1 hu'
        exact h1 r hr u hur) (by unfold maxLen; omega) (by
        have : (ls.length + rs.length) * i.bytes ≤ 1073741824 * 4096 := Nat.mul_le_mul (by omega) h8
        omega) hbase
    refine ⟨v', w', hr, ⟨fun l hl' => ?_, ?_⟩, k2, fun g hg => ?_⟩
    · rcases List.mem_append.1 hl' with h | h
      · exact ho.each l h
      · exact hl l h
    · simpa using k1
    · rcases k4 with h | h
      · exact .inl (by rw [← h]; exact hg)
      · right; rw [h] at hg; simpa using hg.symm
  by_cases h0 : rs = []
  · subst h0
    rcases ha rfl with rfl | ⟨ad, rfl⟩
    · obtain ⟨a', cp, rfl, hcp, _⟩ := ho.shape
      refine ⟨_, w, ?_, by simpa using ho, ⟨rfl, rfl, rfl, Nat.le_refl _, fun _ _ _ => rfl⟩, fun g hg => .inl hg⟩
      cases a' <;> simp [Builtin.append_, run_underlying hu.at_, sizeOf, typeInfo, h2, hcp, Builtin.lenOf, run_firstCells_none, storeCells, Sem.run_bind]
    · exact main ad rfl fun j u hj => by simp at hj
  · have h0' : 0 < rs.length := List.length_pos_iff.2 h0
    obtain ⟨b, o, rfl, _, _⟩ := hs 0 h0'
    refine main _ rfl fun j u hj => ?_
    obtain ⟨l, q1, q2⟩ := flatN_get hsz rs hl hj
    obtain ⟨b', o', e', _, hc⟩ := hs (j / sz) (List.getElem?_eq_some_iff.1 q1).1
    cases e'
    have := hc (j % sz) u (by simp only [List.getD_eq_getElem?_getD, q1]; exact q2)
    rw [show (⟨b, o, none⟩ : Addr).add j = ⟨b, o + j, none⟩ from Addr.add_mid ..]
    rw [show o + j / sz * sz + j % sz = o + j from by have := Nat.div_add_mod j sz; rw [Nat.mul_comm] at this; omega] at this
    exact this
theorem stp_appendN {el sz : Nat} {zs : List Value} [hu : Und P t (.slice el)] [hz : Zro P el zs] [hi : Inf P el sz] [hb : Byt P el] {base : Nat} {v : Value} {ls rs : List (List Value)} {a : Option Addr} {n c : Nat} {p : Nat → Prop}
    (hx : ev e x = some v) (hy : ev e y = some (.slice a n c)) (hn' : rs.length = n)
    (ho : Own w base el sz v ls) (hs : SlC w p sz a n (fun i => rs.getD i [])) (hl : ∀ r ∈ rs, r.length = sz) (hzl : zs.length = sz) (hsz : 0 < sz) (h1 : ∀ r ∈ rs, ∀ u ∈ r, u.oneCell' = true) (hn : ls.length + rs.length ≤ 1073741824) (hbase : base ≤ w.heap.size) :
    Stp P e ⟨d, .call ⟨.builtin .append, #[x, y], #[t, t]⟩, ty, pos, aft, g⟩ w (fun v' w' => Own w' base el sz v' (ls ++ rs) ∧ App w w' v ∧ (∀ g, v'.ownBlock = some g → v.ownBlock = some g ∨ g = w.heap.size)) := ⟨fun ρ hρ => by
  subst hn'
  obtain ⟨v', w', hr, h2⟩ := run_appendN (P := P) (t := t) (ty := ty) (c := c) (hu := hu) (hz := hz) (hi := hi) (hb := hb) ho hs hl hzl hsz h1 hn hbase fun _ => by cases a <;> simp
  have he : (execOp ρ ⟨d, .call ⟨.builtin .append, #[x, y], #[t, t]⟩, ty, pos, aft, g⟩).run P w = .ok (.value v') w' := by
    simp only [execOp, resolve, invoke, builtin, List.map_toArray, List.map_cons, List.map_nil, hρ x _ hx, hρ y _ hy, Sem.run_bind, Sem.run_pure, Result.andThen_ok, hr]
  rw [he]
  exact h2⟩
end Go.Kd
namespace Go.Proofs.YtpiegpegjbmlkaaGreatDoor.Law
open Go Go.Kd
set_option maxRecDepth 100000

abbrev tDe : Nat := 51
theorem Own.low {w : World} {base b' el sz : Nat} {v : Value} {ls : List (List Value)} (h : Own w base el sz v ls) (hb : b' ≤ base) : Own w b' el sz v ls := by
  refine ⟨h.each, h.row.1, ?_⟩
  rcases h.row.2 with h1 | ⟨g, cap, cur, h1, h2, h3⟩
  · exact .inl h1
  · exact .inr ⟨g, cap, cur, h1, by omega, h3⟩
theorem del_one (e : De) (a : Option Addr) (cp : Nat) (a' : Option Addr) (cp' : Nat) : ∀ u ∈ del e a cp a' cp', u.oneCell' = true := fun u hu => by
  simp only [List.mem_cons, List.not_mem_nil, or_false] at hu
  rcases hu with rfl | rfl | rfl | rfl | rfl | rfl | rfl | rfl | rfl | rfl | rfl | rfl <;> rfl
/-- the cells of declarations -/
theorem ds_rows {w : World} {p : Nat → Prop} {a : Option Addr} {n cp : Nat} {D : List De} (h : DsV w p (.slice a n cp) D) : n = D.length ∧ ∃ R : List (List Value), R.length = D.length ∧ SlC w p 12 a D.length (fun i => R.getD i []) ∧ (∀ (i : Nat) r e, R[i]? = some r → D[i]? = some e → DeV w p r e) ∧ (∀ r ∈ R, r.length = 12) ∧ ∀ r ∈ R, ∀ u ∈ r, u.oneCell' = true := by
  obtain ⟨a', cp', f, h0, h1, h2⟩ := h
  cases h0
  have hR : ∀ i, i < D.length → ((List.range D.length).map f)[i]? = some (f i) := fun i hi => by rw [List.getElem?_map, List.getElem?_range hi]; rfl
  have hmem : ∀ r ∈ (List.range D.length).map f, ∃ e a cp a' cp', r = del e a cp a' cp' := fun r hr => by
    obtain ⟨i, hi, rfl⟩ := List.mem_map.1 hr
    have hi := List.mem_range.1 hi
    obtain ⟨a1, c1, a2, c2, _, e, _⟩ := (h2 i _ (List.getElem?_eq_getElem hi)).open
    exact ⟨_, a1, c1, a2, c2, e⟩
  refine ⟨rfl, (List.range D.length).map f, by simp, fun i hi => ?_, fun i r e hr he => ?_, fun r hr => ?_, fun r hr => ?_⟩
  · obtain ⟨b, o, k1, k2, k3⟩ := h1 i hi
    refine ⟨b, o, k1, k2, ?_⟩
    show Cells w b (o + i * 12) (((List.range D.length).map f).getD i [])
    rw [List.getD_eq_getElem?_getD, hR i hi]
    exact k3
  · rw [hR i (List.getElem?_eq_some_iff.1 he).1] at hr
    cases hr
    exact h2 i e he
  · obtain ⟨e, a1, c1, a2, c2, rfl⟩ := hmem r hr
    rfl
  · obtain ⟨e, a1, c1, a2, c2, rfl⟩ := hmem r hr
    exact del_one e a1 c1 a2 c2
theorem DeV.mono {w : World} {p q : Nat → Prop} (hq : ∀ b, p b → q b) {cs : List Value} {e : De} (h : DeV w p cs e) : DeV w q cs e := by
  obtain ⟨ts, a, cp, f, h1, h2, h3, h4⟩ := h
  refine ⟨ts, a, cp, f, h1, h2.mono hq, h3.mono hq, fun i m hm => ?_⟩
  obtain ⟨k, k1, k2⟩ := h4 i m hm
  exact ⟨k, k1, k2.mono hq⟩
/-- an owned slice of declarations -/
def OwnD (n0 : Nat) (R : List (List Value)) (v : Value) (w : World) : Prop := Own w n0 tDe 12 v R
theorem OwnD.okT {n0 : Nat} {R : List (List Value)} : (∀ v w1 w2, Ext w1 w2 → OwnD n0 R v w1 → OwnD n0 R v w2) ∧ ∀ v w1, OwnD n0 R v w1 → ∀ b, v.ownBlock = some b → b < w1.heap.size :=
  ⟨fun _ _ _ x h => Own.ext x h, fun _ _ h b hb => (Own.lt h b hb).2⟩
def RowD (r : List Value) (v : Value) (w : World) : Prop := ∃ b, v = .slice (some ⟨b, 0, none⟩) 1 1 ∧ Has w b (.cells r.toArray tDe)
theorem RowD.okT {r : List Value} : (∀ v w1 w2, Ext w1 w2 → RowD r v w1 → RowD r v w2) ∧ ∀ v w1, RowD r v w1 → ∀ b, v.ownBlock = some b → b < w1.heap.size :=
  ⟨fun _ _ _ x ⟨b, h1, h2⟩ => ⟨b, h1, h2.ext' x⟩, fun v w1 ⟨b, h1, h2⟩ c hc => by
    rw [h1] at hc
    have : b = c := by simpa [Value.ownBlock] using hc
    have := h2.lt
    omega⟩
set_option maxHeartbeats 4000000 in
theorem t_withG (nm : ByteArray) (pk : Int) (al : Bool) {D : List De} {a : Option Addr} {cp : Nat} {x : Ty} {a1 : Option Addr} {c1 : Nat} {w : World} (hd : DsV w (fun b => b < w.heap.size) (.slice a D.length cp) D) (hx : TysV w (fun b => b < w.heap.size) a1 c1 x.elems) (hl : D.length ≤ 1048576) :
    Calls Tryz.prog 30 #[.slice a D.length cp, .agg (del (dcl nm pk al x) a1 c1 none 0).toArray] w (Ret fun r w' => ∃ a' cp', r = .slice a' (D ++ [dcl nm pk al x]).length cp' ∧ DsV w' (fun b => b < w'.heap.size) (.slice a' (D ++ [dcl nm pk al x]).length cp') (D ++ [dcl nm pk al x]) ∧ Ext w w') := by
  obtain ⟨_, R, hR, hs, hdv, hr12, hr1⟩ := ds_rows hd
  refine W.enter (args := [.slice a D.length cp, .agg (del (dcl nm pk al x) a1 c1 none 0).toArray]) Tryz.func30 rfl Tryz.ntmps30 rfl rfl ?_
  refine zst ?_
  refine WU.stp rfl rfl rfl (by first | exact stp_box rfl rfl | exact stp_box1 rfl rfl) ?_
  rintro _ w1 ⟨b3, rfl, n1⟩
  have ib3 : Has w1 b3 (.cells (del (dcl nm pk al x) a1 c1 none 0).toArray tDe) := n1.has
  refine zst ?_
  refine W.regT ?_
  intro w2 x2
  have ib4 := ib3.ext' x2
  have x02 := n1.ext.trans x2
  have z02 := x02.size
  refine WT.q 0 (by kernel_rfl) (by kernel_rfl) (by kernel_rfl) rfl rfl rfl rfl zyl ?_
  refine WT.q 2 (by kernel_rfl) (by kernel_rfl) (by kernel_rfl) rfl rfl rfl rfl zyl ?_
  refine WT.free [⟨1, 6, _, fun v b => v.ownBlock = some b, OwnD w2.heap.size R⟩, ⟨3, 8, _, fun v b => v.ownBlock = some b, RowD (del (dcl nm pk al x) a1 c1 none 0)⟩] 2 #[true, true, true, true, false, false] rfl (by kernel_rfl) rfl rfl ⟨⟨rfl, rfl, rfl, rfl, rfl⟩, ⟨rfl, rfl, rfl, rfl, rfl⟩, trivial⟩
    ⟨fun w' xx => ?_, fun w' xx => ?_, trivial⟩ ⟨OwnD.okT, RowD.okT, trivial⟩ ?_
  · have hs' : SlC w' (fun b => b < w.heap.size) 12 a D.length (fun i => R.getD i []) := hs.ext (x02.trans xx)
    have o0 : Own w' w'.heap.size tDe 12 (.slice none 0 0) [] := Own.nil ..
    exact Stp.imp (stp_appendN (el := tDe) rfl rfl hR o0 hs' hr12 rfl (by decide) hr1 (by simp; omega) (Nat.le_refl _)) fun v w'' ⟨k1, k2, _⟩ => by
      rw [List.nil_append] at k1
      exact ⟨k2.ext o0 (Ext.rfl' _) (Nat.le_refl _), Own.low k1 xx.size, fun b hb => (k1.lt b hb).1⟩
  · exact Stp.imp (stp_buildSlice rfl rfl rfl rfl rfl) fun v w'' ⟨b, k1, n⟩ => ⟨n.ext, ⟨b, k1, n.has⟩, fun c hc => by
      rw [k1] at hc
      have : b = c := by simpa [Value.ownBlock] using hc
      have := n.num
      omega⟩
  · rintro w3 x3 v6 o6 _ _ ⟨b8, rfl, i8⟩ _
    have z3 := x3.size
    refine WT.lin [(4, .z), (5, .q)] (by kernel_rfl) (by kernel_rfl) rfl ?_
    refine WD.last rfl rfl rfl rfl (stp_append1 (el := tDe) rfl rfl o6 (Cells.has i8) rfl rfl (by decide) (del_one _ _ _ _ _) (by omega) x3.size) ?_
    rintro v9 w4 ⟨o9, a9, _⟩
    have x4 := a9.ext o6 (x02.trans x3) (by omega)
    have z4 := x4.size
    refine zsd ?_
    refine zst ?_
    obtain ⟨a', cp', rfl, h1, h2⟩ := o9.shape
    have hlen : (R ++ [del (dcl nm pk al x) a1 c1 none 0]).length = (D ++ [dcl nm pk al x]).length := by simp [hR]
    refine fin1 (.inl rfl) rfl rfl ⟨a', cp', by rw [hlen], ⟨a', cp', fun i => (R ++ [del (dcl nm pk al x) a1 c1 none 0]).getD i [], rfl, ?_, fun i e he => ?_⟩, x4⟩
    · rw [← hlen]
      exact h2.mono fun b hb => (o9.lt b hb).2
    · show DeV w4 _ ((R ++ [del (dcl nm pk al x) a1 c1 none 0]).getD i []) e
      rw [List.getD_eq_getElem?_getD]
      rcases Nat.lt_trichotomy i D.length with hi | hi | hi
      · rw [List.getElem?_append_left hi] at he
        rw [List.getElem?_append_left (by omega), List.getElem?_eq_getElem (by omega)]
        exact DeV.mono (fun b hb => by omega) ((hdv i _ e (List.getElem?_eq_getElem (by omega)) he).ext x4)
      · subst hi
        rw [List.getElem?_append_right (Nat.le_refl _)] at he
        simp at he
        subst he
        rw [List.getElem?_append_right (by omega), hR]
        simp only [Nat.sub_self, List.getElem?_cons_zero, Option.getD_some]
        exact ⟨tyc (elT x) a1 c1, none, 0, fun _ => [], rfl, .of_tys (t := elT x) ((hx.ext x4).mono fun b hb => by omega), fun j hj => by simp [dcl] at hj, fun j m hm => by simp [dcl] at hm⟩
      · rw [List.getElem?_eq_none (by simp; omega)] at he
        cases he
theorem c_last (n : Int) (w : World) : Calls Tryz.prog 32 #[.int .i64 n] w (Ret fun r w' => r = tyv 1 n 0 false (.slice none 0 0) E0 E0 false ∧ Ext w w') := by
  refine W.enter (args := [.int .i64 n]) Tryz.func32 rfl Tryz.ntmps32 rfl rfl ?_
  refine zst ?_
  refine WU.stp rfl rfl rfl stp_alloc ?_
  rintro _ w1 ⟨b1, rfl, n1⟩
  refine zst ?_
  refine WU.stp rfl rfl rfl (stp_call rfl (c_of 1 n none 0 0 w1)) ?_
  rintro _ w2 ⟨rfl, x2⟩
  refine WU.stp0 rfl rfl (stp_store_whole rfl rfl rfl rfl) ?_
  rintro _ w3 u3
  refine zst ?_
  exact finc (.inl rfl) rfl rfl ⟨rfl, u3.ext (n1.ext.trans x2) (Nat.le_of_eq n1.num.symm)⟩
/-- a call that makes a type out of old ones, without new blocks -/
def OldT (n0 : Nat) (t : Ty) (v : Value) (w : World) : Prop := TvP w (fun b => b < n0) v t
theorem OldT.okT {n0 : Nat} {t : Ty} : (∀ v w1 w2, Ext w1 w2 → OldT n0 t v w1 → OldT n0 t v w2) ∧ ∀ v w1, OldT n0 t v w1 → ∀ b, (fun (_ : Value) (_ : Nat) => False) v b → b < w1.heap.size := ⟨fun _ _ _ x h => TvP.at_ x h, fun _ _ _ _ h => h.elim⟩
end Go.Proofs.YtpiegpegjbmlkaaGreatDoor.Law
namespace Go.Proofs.YtpiegpegjbmlkaaGreatDoor
open Go Go.Kd

abbrev nmD : ByteArray := ⟨#[68]⟩
theorem ident_nmD : Ident nmD.toList ∧ nmD.toList ≠ us := by
  rw [Lib.toList_data]
  refine ⟨⟨by decide, .inr fun i c h => ?_⟩, by decide⟩
  match i with
  | 0 =>
    obtain rfl : (68 : UInt8) = c := by simpa using h
    exact .inl (by decide)
  | i + 1 => simp at h
theorem rng_eqv {t u : Ty} (h : Eqv t u) (hr : Rng t) : Rng u := .mk u (by rw [← h.n]; exact hr.n) fun i e he => hr.el i e (by rw [h.el]; exact he)
theorem rngD_app {D : List De} {e : De} (h : RngD D) (he : Rng e.ty) : RngD (D ++ [e]) := fun x hx => by
  rcases List.mem_append.1 hx with hx | hx
  · exact h x hx
  · simp at hx; rw [hx]; exact he
theorem rng_last {n : Nat} (h : n ≤ 16777216) : Rng (lastT n) := .mk _ (by show (n : Int) ≤ _; omega) fun i e he => by simp [lastT, ndT, Ty.elems] at he
theorem tys_last (w : World) (n : Nat) : TysV w (fun b => b < w.heap.size) none 0 (lastT n).elems := ⟨Nat.le_refl _, fun _ => [], fun i hi => by simp [lastT, ndT, Ty.elems] at hi, fun i e he => by simp [lastT, ndT, Ty.elems] at he⟩
theorem wt_last (n : Nat) : wt (lastT n) = 1 := rfl
theorem alike_two {z1 z2 s : Int} (h1 : alikeS z1 s) (h2 : alikeS z2 s) : alikeS z1 z2 := by unfold alikeS at *; omega
end Go.Proofs.YtpiegpegjbmlkaaGreatDoor
namespace Go.Proofs.YtpiegpegjbmlkaaGreatDoor.Law
open Go Go.Kd
set_option maxRecDepth 100000

set_option maxHeartbeats 4000000 in
theorem c_FnSizesDefined {D : List De} {a : Option Addr} {cp : Nat} {t1 : Ty} {a1 : Option Addr} {c1 : Nat} {q2 : Bool} {q3 : Bool} {i4 : Int} {w : World} (hp : Prp w) (hbz : Bsz w) (_ : (-9223372036854775808 : Int) ≤ i4 ∧ i4 ≤ 9223372036854775807) (hwd : wtD D ≤ 1048576) (hw1 : wt t1 ≤ 1048576) (hd : DsV w (fun b => b < w.heap.size) (.slice a D.length cp) D) (ht1 : TysV w (fun b => b < w.heap.size) a1 c1 t1.elems) (hRD : RngD D) (hR1 : Rng t1) :
    Calls Tryz.prog 10 #[.slice a D.length cp, .agg (tyc t1 a1 c1).toArray, .bool q2, .bool q3, .int .i64 i4] w (Ret fun r w' => r = .bool true ∧ Ext w w') := by
  have hDl : D.length ≤ 16777216 := by have := len_wtD D; omega
  have lw : LW D a cp w := ⟨hp, hd⟩
  have T1 : TvV w (.agg (tyc t1 a1 c1).toArray) t1 := ⟨⟨_, _, rfl, ht1⟩⟩
  have x0 : Ext w w := Ext.rfl' w
  refine W.enter (args := [.slice a D.length cp, .agg (tyc t1 a1 c1).toArray, .bool q2, .bool q3, .int .i64 i4]) Tryz.func10 rfl Tryz.ntmps10 rfl rfl ?_
  refine zst ?_
  refine WU.stp rfl rfl rfl (by first | exact stp_box rfl rfl | exact stp_box1 rfl rfl) ?_
  rintro _ w1 ⟨b1, rfl, n1⟩
  replace lw := lw.ext n1.ext
  replace hbz := hbz.ext n1.ext
  replace T1 := T1.ext n1.ext
  replace x0 := x0.trans n1.ext
  have ib1 : Has w1 b1 (.cells (tyc t1 a1 c1).toArray 26) := n1.has
  refine zst ?_
  rw [show decide ((2147483647 : Int) < (D.length : Int)) = false by simp; omega]
  refine zst ?_
  refine WU.stp rfl rfl rfl (stp_call rfl (c_zzFits1 t1 a1 c1 _ (by omega))) ?_
  rintro _ w2 ⟨rfl, x2⟩
  replace lw := lw.ext x2
  replace hbz := hbz.ext x2
  replace T1 := T1.ext x2
  replace ib1 := ib1.ext' x2
  replace x0 := x0.trans x2
  refine zst ?_
  refine WU.stp rfl rfl rfl (stp_buildSlice rfl rfl rfl rfl rfl) ?_
  rintro _ w3 ⟨r3, rfl, n3⟩
  replace lw := lw.ext n3.ext
  replace hbz := hbz.ext n3.ext
  replace T1 := T1.ext n3.ext
  replace ib1 := ib1.ext' n3.ext
  replace x0 := x0.trans n3.ext
  have hr : Has w3 r3 (.cells (tyc t1 a1 c1).toArray 26) := n3.has
  refine zst ?_
  refine WU.stp rfl rfl rfl (stp_call rfl (t_Valid1 lw hwd hr rfl T1 (by omega))) ?_
  rintro _ w4 ⟨v, rfl, hv, x4⟩
  replace lw := lw.ext x4
  replace hbz := hbz.ext x4
  replace T1 := T1.ext x4
  replace ib1 := ib1.ext' x4
  replace x0 := x0.trans x4
  cases v with
  | false =>
    refine zst ?_
    refine zst ?_
    exact fin1 (.inl rfl) rfl rfl ⟨rfl, x0⟩
  | true =>
    obtain ⟨hV, hT⟩ := hv rfl
    have hok := okD hV hwd
    have hG := hT.good (Nat.le_trans hw1 (by decide))
    obtain ⟨_, hc⟩ := good_cmp hok hG
    refine zst ?_
    refine WU.stp rfl rfl rfl (stp_call rfl (c_sizes q3 i4 w4)) ?_
    rintro _ w5 ⟨wd, mx, hW, rfl, x5⟩
    replace lw := lw.ext x5
    replace hbz := hbz.ext x5
    replace T1 := T1.ext x5
    replace ib1 := ib1.ext' x5
    replace x0 := x0.trans x5
    have hwd4 := hW.wd
    refine zst ?_
    refine WU.stp rfl rfl rfl stp_alloc ?_
    rintro _ w6 ⟨b6, rfl, n6⟩
    refine WU.stp0 rfl rfl (stp_store_whole rfl rfl rfl rfl) ?_
    rintro _ w7 u7
    have is : szb w7 b6 wd mx := u7.has
    have y7 : Ext w5 w7 := (u7.ofNew n6).ext
    clear u7 n6
    replace lw := lw.ext y7
    replace hbz := hbz.ext y7
    replace T1 := T1.ext y7
    replace ib1 := ib1.ext' y7
    replace x0 := x0.trans y7
    obtain ⟨s, al, hz⟩ := exists_sz hok wd mx hc hG
    have hal := (hz.ok hW).2
    have hV' := dcl_valid (al := q2) hok hV hT (Nat.le_trans hw1 (by decide)) ident_nmD (.inl rfl)
    have hwd' : wtD (D ++ [dcl nmD 0 q2 t1]) ≤ 16777216 := by
      have h1 : wtDe (dcl nmD 0 q2 t1) = wt (elT t1) + (1 + 0) := rfl
      have h2 := wt_elT t1
      rw [wtD_one]
      omega
    have hRD' : RngD (D ++ [dcl nmD 0 q2 t1]) := rngD_app hRD (rng_eqv (Eqv.elT t1) hR1)
    have hz' := sz_last (al := q2) hok hV'.sh hT (Nat.le_trans hw1 (by decide)) hz
    refine zst ?_
    refine WU.stp rfl rfl rfl (stp_call rfl (c_element t1.kind t1.n t1.count t1.vr a1 t1.elems.length c1 t1.name t1.tag t1.emb _)) ?_
    rintro _ w8 ⟨rfl, x8⟩
    replace lw := lw.ext x8
    replace hbz := hbz.ext x8
    replace T1 := T1.ext x8
    replace ib1 := ib1.ext' x8
    replace is := is.ext' x8
    replace x0 := x0.trans x8
    refine zst ?_
    refine WU.stp rfl rfl rfl (stp_call rfl (t_withG nmD 0 q2 lw.hd T1.tys (by have := len_wtD D; omega))) ?_
    rintro _ w9 ⟨a7, c7, rfl, hd7, x9⟩
    replace lw := lw.ext x9
    replace hbz := hbz.ext x9
    replace T1 := T1.ext x9
    replace ib1 := ib1.ext' x9
    replace is := is.ext' x9
    replace x0 := x0.trans x9
    have lw7 : LW (D ++ [dcl nmD 0 q2 t1]) a7 c7 w9 := ⟨lw.hp, hd7⟩
    refine zst ?_
    refine WU.stp rfl rfl rfl (stp_call rfl (c_last D.length w9)) ?_
    rintro _ w10 ⟨rfl, x10⟩
    replace lw := lw.ext x10
    replace hbz := hbz.ext x10
    replace T1 := T1.ext x10
    replace ib1 := ib1.ext' x10
    replace is := is.ext' x10
    replace lw7 := lw7.ext x10
    replace x0 := x0.trans x10
    refine WU.stp rfl rfl rfl stp_alloc ?_
    rintro _ w11 ⟨b11, rfl, n11⟩
    refine zst ?_
    refine WU.stp0 rfl rfl (stp_store_whole rfl rfl rfl rfl) ?_
    rintro _ w12 u12
    have il : Has w12 b11 (.cells (tyc (lastT D.length) none 0).toArray 26) := u12.has
    have y12 : Ext w10 w12 := (u12.ofNew n11).ext
    clear u12 n11
    replace lw := lw.ext y12
    replace hbz := hbz.ext y12
    replace T1 := T1.ext y12
    replace ib1 := ib1.ext' y12
    replace is := is.ext' y12
    replace lw7 := lw7.ext y12
    replace x0 := x0.trans y12
    refine zst ?_
    refine W.regD [(0, .q), (1, .q), (2, .q), (3, .q), (4, .q), (5, .q), (7, .q), (8, .q), (9, .q), (10, .q), (11, .q), (12, .q), (6, .l), (13, .l), (14, .l), (15, .q), (16, .q), (17, .q), (18, .q), (19, .q), (20, .q), (21, .q), (23, .q), (24, .q), (25, .q), (26, .q), (27, .q), (28, .q), (22, .l), (29, .l), (30, .q), (31, .q), (32, .q), (33, .q), (34, .q), (35, .q), (36, .q), (37, .q), (38, .q), (39, .l), (40, .q), (41, .q), (42, .q)] (by kernel_rfl) (by kernel_rfl) rfl ?_
    intro w13 x13 _
    replace lw := lw.ext x13
    replace hbz := hbz.ext x13
    replace T1 := T1.ext x13
    replace ib1 := ib1.ext' x13
    replace is := is.ext' x13
    replace lw7 := lw7.ext x13
    replace il := il.ext' x13
    replace x0 := x0.trans x13
    refine zsd ?_
    refine WD.stp rfl rfl rfl rfl (stp_call rfl (c_iSizeof lw7.hp hbz hW hV' valid_last hwd' (by rw [wt_last]; decide) hRD' (rng_last (by omega)) hz' lw7.hd (tys_last _ _))) ?_
    rintro _ w14 ⟨⟨z1, rfl, hz1, _⟩, x14⟩
    refine ⟨by first | assumption | exact Ext.rfl' _ | infer_instance, ?_⟩
    replace lw := lw.ext x14
    replace hbz := hbz.ext x14
    replace T1 := T1.ext x14
    replace ib1 := ib1.ext' x14
    replace is := is.ext' x14
    replace lw7 := lw7.ext x14
    replace il := il.ext' x14
    replace x0 := x0.trans x14
    refine zsd ?_
    refine WD.stp rfl rfl rfl rfl (stp_call rfl (c_iSizeof lw.hp hbz hW hV hT (by omega) (by omega) hRD hR1 hz lw.hd T1.tys)) ?_
    rintro _ w15 ⟨⟨z2, rfl, hz2, _⟩, x15⟩
    refine ⟨by first | assumption | exact Ext.rfl' _ | infer_instance, ?_⟩
    replace lw := lw.ext x15
    replace hbz := hbz.ext x15
    replace T1 := T1.ext x15
    replace ib1 := ib1.ext' x15
    replace is := is.ext' x15
    replace lw7 := lw7.ext x15
    replace il := il.ext' x15
    replace x0 := x0.trans x15
    refine zsd ?_
    refine WD.stp rfl rfl rfl rfl (stp_call rfl (c_sizedAlike z1 z2 w15)) ?_
    rintro _ _ ⟨rfl, rfl⟩
    refine ⟨by first | assumption | exact Ext.rfl' _ | infer_instance, ?_⟩
    rw [alike_true (alike_two hz1 hz2)]
    refine zsd ?_
    refine WD.stp rfl rfl rfl rfl (stp_call rfl (c_iAlignof lw7.hp hbz hW hV' valid_last hwd' (by rw [wt_last]; decide) hRD' (rng_last (by omega)) hz' lw7.hd (tys_last _ _))) ?_
    rintro _ w16 ⟨rfl, x16⟩
    refine ⟨by first | assumption | exact Ext.rfl' _ | infer_instance, ?_⟩
    replace lw := lw.ext x16
    replace hbz := hbz.ext x16
    replace T1 := T1.ext x16
    replace ib1 := ib1.ext' x16
    replace is := is.ext' x16
    replace lw7 := lw7.ext x16
    replace il := il.ext' x16
    replace x0 := x0.trans x16
    refine zsd ?_
    refine WD.stp rfl rfl rfl rfl (stp_call rfl (c_iAlignof lw.hp hbz hW hV hT (by omega) (by omega) hRD hR1 hz lw.hd T1.tys)) ?_
    rintro _ w17 ⟨rfl, x17⟩
    refine ⟨by first | assumption | exact Ext.rfl' _ | infer_instance, ?_⟩
    replace lw := lw.ext x17
    replace hbz := hbz.ext x17
    replace T1 := T1.ext x17
    replace ib1 := ib1.ext' x17
    replace is := is.ext' x17
    replace lw7 := lw7.ext x17
    replace il := il.ext' x17
    replace x0 := x0.trans x17
    refine zsd ?_
    rw [show (al == al) = true by simp]
    refine zsd ?_
    refine WD.stp rfl rfl rfl rfl (stp_call rfl (c_iAlignof lw7.hp hbz hW hV' valid_last hwd' (by rw [wt_last]; decide) hRD' (rng_last (by omega)) hz' lw7.hd (tys_last _ _))) ?_
    rintro _ w18 ⟨rfl, x18⟩
    refine ⟨by first | assumption | exact Ext.rfl' _ | infer_instance, ?_⟩
    replace lw := lw.ext x18
    replace hbz := hbz.ext x18
    replace T1 := T1.ext x18
    replace ib1 := ib1.ext' x18
    replace is := is.ext' x18
    replace lw7 := lw7.ext x18
    replace il := il.ext' x18
    replace x0 := x0.trans x18
    refine zsd ?_
    rw [show decide (al ≥ 1) = true by unfold okA at hal; simp; omega]
    refine zsd ?_
    refine zst ?_
    exact fin1 (.inl rfl) rfl rfl ⟨rfl, x0⟩
end Go.Proofs.YtpiegpegjbmlkaaGreatDoor.Law

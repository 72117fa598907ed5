/- The walks and the plain laws, part 1. -/
import Derived.Test.YtlemfkbhcleopaaGreatDoorY2
import Derived.Lib.Strings
import Derived.Test.YtlemfkbhcleopaaGreatDoorY5
import Derived.Test.YtlemfkbhcleopaaGreatDoorY4
namespace Go.Proofs.YtlemfkbhcleopaaGreatDoor
open Go Go.Kd
set_option maxRecDepth 100000

end Go.Proofs.YtlemfkbhcleopaaGreatDoor
namespace Go.Proofs.YtlemfkbhcleopaaGreatDoor
open Go Go.Kd

structure Eqv (t u : Ty) : Prop where
  kd : t.kind = u.kind
  n : t.n = u.n
  c : t.count = u.count
  v : t.vr = u.vr
  el : t.elems = u.elems
theorem Eqv.rfl' (t : Ty) : Eqv t t := ⟨rfl, rfl, rfl, rfl, rfl⟩
theorem Eqv.symm {t u : Ty} (h : Eqv t u) : Eqv u t := ⟨h.kd.symm, h.n.symm, h.c.symm, h.v.symm, h.el.symm⟩
/-- a type as an element -/
def elT (t : Ty) : Ty := .mk t.kind t.n t.count t.vr t.elems eB eB false
theorem Eqv.elT (t : Ty) : Eqv t (elT t) := ⟨rfl, rfl, rfl, rfl, rfl⟩
theorem wt_elT (t : Ty) : wt (elT t) ≤ wt t := by rw [wt_eq t, wt_eq]; show 1 + (0 + 0) + _ ≤ _; simp only [_root_.Go.Proofs.YtlemfkbhcleopaaGreatDoor.elT, Ty.elems]; omega
theorem Eqv.decl {D : List De} {t u : Ty} (h : Eqv t u) : decl D t = decl D u := by unfold Go.Proofs.YtlemfkbhcleopaaGreatDoor.decl; rw [h.kd, h.n]
theorem Eqv.isAl {D : List De} {t u : Ty} (h : Eqv t u) : isAl D t = isAl D u := by unfold Go.Proofs.YtlemfkbhcleopaaGreatDoor.isAl; rw [h.decl]
theorem Eqv.unal1 {D : List De} {t u : Ty} (h : Eqv t u) : Eqv (unal1 D t) (unal1 D u) := by
  unfold Go.Proofs.YtlemfkbhcleopaaGreatDoor.unal1
  rw [h.decl]
  split
  · split
    · exact .rfl' _
    · exact h
  · exact h
theorem Eqv.rep {f : Ty → Ty} (hf : ∀ {t u : Ty}, Eqv t u → Eqv (f t) (f u)) {t u : Ty} (h : Eqv t u) : ∀ k, Eqv (rep f k t) (rep f k u)
  | 0 => h
  | k + 1 => hf (Eqv.rep hf h k)
theorem Eqv.norm {t u : Ty} (h : Eqv t u) : Eqv (norm t) (norm u) := by
  unfold Go.Proofs.YtlemfkbhcleopaaGreatDoor.norm
  rw [h.kd, h.n]
  obtain ⟨k, n, c, v, l, s, g, e⟩ := t
  obtain ⟨k', n', c', v', l', s', g', e'⟩ := u
  obtain ⟨h1, h2, h3, h4, h5⟩ := h
  simp only [Ty.kind, Ty.n, Ty.count, Ty.vr, Ty.elems] at h1 h2 h3 h4 h5
  subst h1 h2 h3 h4 h5
  repeat' split
  all_goals exact ⟨rfl, rfl, rfl, rfl, rfl⟩
theorem Eqv.unalias {D : List De} {t u : Ty} (h : Eqv t u) : Eqv (unaliasT D t) (unaliasT D u) := (Eqv.rep Eqv.unal1 h _).norm
theorem Eqv.und1 {D : List De} {t u : Ty} (h : Eqv t u) : Eqv (und1 D t) (und1 D u) := by
  unfold Go.Proofs.YtlemfkbhcleopaaGreatDoor.und1
  rw [h.decl]
  split
  · exact .rfl' _
  · exact h
theorem Eqv.errN {t u : Ty} (h : Eqv t u) : Eqv (errN t) (errN u) := by
  unfold Go.Proofs.YtlemfkbhcleopaaGreatDoor.errN
  rw [h.kd, h.n]
  split
  · exact .rfl' _
  · exact h
theorem Eqv.under {D : List De} {t u : Ty} (h : Eqv t u) : Eqv (underT D t) (underT D u) := (Eqv.rep Eqv.und1 h.unalias _).errN
theorem Eqv.im {D : List De} {t u : Ty} (h : Eqv t u) {ms : List Mt} (hm : IM D t ms) : IM D u ms := by
  have hu := h.under (D := D)
  cases hm with
  | no _ hk => exact .no u (by rw [← hu.kd]; exact hk)
  | yes _ L h9 hl h1 h2 =>
    rw [hu.c]
    rw [hu.kd] at h9
    rw [hu.el] at hl
    rw [hu.c, hu.el, hu.n] at h1
    rw [hu.c, hu.el] at h2
    exact .yes u L h9 hl h1 h2
theorem Eqv.exp {D : List De} {t u : Ty} (h : Eqv t u) {x : X} (hx : Exp D t x) : Exp D u x := by
  have ha := h.unalias (D := D)
  cases hx with
  | leaf _ hk =>
    rw [ha.kd] at hk
    rw [ha.kd, ha.n]
    exact .leaf u hk
  | plain _ es h2 h8 hl he =>
    rw [ha.kd] at h2 h8
    rw [ha.el] at hl he
    have := Exp.plain u es h2 h8 hl he
    unfold nN cN vN anN at this ⊢
    rw [ha.kd, ha.n, ha.c, ha.v, ha.el]
    exact this
  | iface _ ms es h9 hm hl he => exact .iface u ms es (by rw [← ha.kd]; exact h9) (ha.im hm) hl he
theorem Eqv.shaped {D : List De} {i : Nat} {v : Bool} {t u : Ty} (h : Eqv t u) (hs : Shaped D i v t) : Shaped D i v u := by
  have s := hs.shape
  refine .mk v u ⟨by rw [← h.kd]; exact s.lo, by rw [← h.kd]; exact s.hi, by rw [← h.kd, ← h.el]; exact s.len, by rw [← h.kd, ← h.n]; exact s.n0, by rw [← h.kd, ← h.n]; exact s.n1, by rw [← h.kd, ← h.n, ← h.isAl]; exact s.nm, by rw [← h.kd, ← h.c]; exact s.c0, by rw [← h.kd, ← h.c, ← h.el]; exact s.c1,
    by rw [← h.kd, ← h.v, ← h.c, ← h.el]; exact s.vr, by rw [← h.kd, ← h.c, ← h.el]; exact s.mth⟩ fun j e he => ?_
  rw [← h.el] at he
  have := hs.el j e he
  unfold holdsT at this ⊢
  rw [← h.kd, ← h.c]
  exact this
theorem Eqv.cons {D : List De} {t u : Ty} (h : Eqv t u) {all : List Mt} (c : Cons D t all) : Cons D u all := by
  obtain ⟨h1, h2, h3⟩ := c
  rw [h.el, h.c] at h2 h3
  exact ⟨h.im h1, h2, h3⟩
theorem Eqv.legal {D : List De} {t u : Ty} (h : Eqv t u) (hl : Legal D t) : Legal D u := by
  refine .mk u (fun i e he => hl.el i e (by rw [h.el]; exact he)) ?_
  obtain ⟨h1, h2, h3, h4, h5, h6, h7, h8⟩ := hl.here
  rw [h.kd] at h1 h2 h3 h4 h5 h6 h7 h8
  rw [h.el] at h1 h2 h3 h4 h5 h6 h7
  rw [h.c] at h4 h5 h6 h7
  exact ⟨h1, h2, h3, h4, h5, h6, h7, fun k => by obtain ⟨all, ha⟩ := h8 k; exact ⟨all, h.cons ha⟩⟩
theorem Eqv.cmp {D : List De} {t u : Ty} (h : Eqv t u) {b : Bool} (hc : Cmp D t b) : Cmp D u b := by
  have hu := h.under (D := D)
  cases hc with
  | no _ hk => exact .no u (by rw [← hu.kd]; exact hk)
  | yes _ hk => exact .yes u (by rw [← hu.kd]; exact hk)
  | all _ bs hk hl he =>
    rw [hu.kd] at hk
    rw [hu.el] at hl he
    exact .all u bs hk hl he
theorem Eqv.valid {D : List De} {t u : Ty} (h : Eqv t u) (hv : ValidT D t) : ValidT D u := ⟨h.shaped hv.sh, h.legal hv.lg⟩

theorem Shaped.any {D : List De} {v : Bool} {t : Ty} (h : Shaped D D.length v t) : ∀ v', Shaped D D.length v' t := by
  generalize hi : D.length = i at h
  induction h with
  | mk v t s _ ih =>
    intro v'
    refine .mk v' t ⟨s.lo, s.hi, s.len, s.n0, s.n1, fun hk _ => ?_, s.c0, s.c1, s.vr, s.mth⟩ fun j e he => ih j e he _
    have := s.n1 (by rw [hk]; simp [limitN])
    rw [hk] at this
    simp [limitN] at this
    omega
theorem ValidT.el {D : List De} {t : Ty} (h : ValidT D t) {i : Nat} {e : Ty} (he : t.elems[i]? = some e) : ValidT D e := ⟨(h.sh.el i e he).any _, h.lg.el i e he⟩

/-- a type of this kind, of these elements -/
def ndT (k n : Int) (l : List Ty) : Ty := .mk k n 0 false l eB eB false
theorem wt_nd (k n : Int) (l : List Ty) : wt (ndT k n l) = 1 + wts l := by rw [wt_eq]; simp only [ndT, Ty.elems, Ty.name, Ty.tag]; rfl
theorem unal_lit {D : List De} {t : Ty} (h0 : t.kind ≠ 0) (h1 : t.kind ≠ 1) : unaliasT D t = t := by
  have ha : Go.Proofs.YtlemfkbhcleopaaGreatDoor.isAl D t = false := by unfold Go.Proofs.YtlemfkbhcleopaaGreatDoor.isAl; rw [decl_none h1]
  rw [unalias_lit ha, norm_named h0]
theorem valid_nd1 {D : List De} {k n : Int} {t : Ty} (hk : k = 2 ∨ k = 3 ∨ (k = 4 ∧ 0 ≤ n) ∨ (k = 6 ∧ 0 ≤ n ∧ n < 3)) (h : ValidT D t) : ValidT D (ndT k n [elT t]) := by
  have he : ∀ (j : Nat) e, (ndT k n [elT t]).elems[j]? = some e → e = elT t := fun j e he => by
    have he : [elT t][j]? = some e := he
    match j with
    | 0 => simpa using he.symm
    | j + 1 => simp at he
  have hke : (ndT k n [elT t]).kind = k := rfl
  have hn : (ndT k n [elT t]).n = n := rfl
  refine ⟨.mk _ _ ⟨by omega, by omega, fun _ => ?_, fun hl => ?_, fun hl => ?_, fun _ => by omega, fun _ => by omega, fun _ => by omega, fun _ => by omega, fun _ => by omega⟩ fun j e hj => ?_, .mk _ (fun j e hj => ?_) ⟨fun _ => by omega, fun _ => by omega, fun _ => by omega, fun _ => by omega, fun _ => by omega, fun _ => by omega, fun _ => by omega, fun _ => by omega⟩⟩
  · rw [hke]; rcases hk with rfl | rfl | ⟨rfl, _⟩ | ⟨rfl, _⟩ <;> rfl
  · rw [hke] at hl; rw [hn]
    rcases hk with rfl | rfl | ⟨rfl, h⟩ | ⟨rfl, h, _⟩
    · simp [limitN] at hl
    · simp [limitN] at hl
    · exact h
    · exact h
  · rw [hke] at hl ⊢; rw [hn]
    rcases hk with rfl | rfl | ⟨rfl, _⟩ | ⟨rfl, _, h⟩
    · simp [limitN] at hl
    · simp [limitN] at hl
    · simp [limitN] at hl
    · simpa [limitN] using h
  · rw [he j e hj]; exact ((Eqv.elT t).shaped h.sh).any _
  · rw [he j e hj]; exact (Eqv.elT t).legal h.lg
theorem valid_map {D : List De} {k t : Ty} (hk : ValidT D k) (hc : Cmp D k true) (h : ValidT D t) : ValidT D (ndT 5 0 [elT k, elT t]) := by
  have he : ∀ (j : Nat) e, (ndT 5 0 [elT k, elT t]).elems[j]? = some e → e = elT k ∨ e = elT t := fun j e he => by
    have he : [elT k, elT t][j]? = some e := he
    match j with
    | 0 => exact .inl (by simpa using he.symm)
    | 1 => exact .inr (by simpa using he.symm)
    | j + 2 => simp at he
  have hke : (ndT 5 0 [elT k, elT t]).kind = 5 := rfl
  refine ⟨.mk _ _ ⟨by omega, by omega, fun _ => rfl, fun hl => ?_, fun hl => ?_, fun _ => by omega, fun _ => by omega, fun _ => by omega, fun _ => by omega, fun _ => by omega⟩ fun j e hj => ?_, .mk _ (fun j e hj => ?_) ⟨fun _ e h0 => ?_, fun _ => by omega, fun _ => by omega, fun _ => by omega, fun _ => by omega, fun _ => by omega, fun _ => by omega, fun _ => by omega⟩⟩
  · rw [hke] at hl; simp [limitN] at hl
  · rw [hke] at hl; simp [limitN] at hl
  · rcases he j e hj with rfl | rfl
    · exact ((Eqv.elT k).shaped hk.sh).any _
    · exact ((Eqv.elT t).shaped h.sh).any _
  · rcases he j e hj with rfl | rfl
    · exact (Eqv.elT k).legal hk.lg
    · exact (Eqv.elT t).legal h.lg
  · have h0 : [elT k, elT t][0]? = some e := h0
    obtain rfl : elT k = e := by simpa using h0
    exact (Eqv.elT k).cmp hc
/-- the tree of a type that is made of another one -/
def nd1 (k n : Int) (x : X) : X := .node k (if k = 4 ∨ k = 6 then n else 0) 0 false [] [x]
def nd2 (x y : X) : X := .node 5 0 0 false [] [x, y]
theorem exp_nd1 {D : List De} {k n : Int} {t : Ty} {x : X} (hk : k = 2 ∨ k = 3 ∨ k = 4 ∨ k = 6) (h : Exp D t x) : Exp D (ndT k n [elT t]) (nd1 k n x) := by
  have hke : (ndT k n [elT t]).kind = k := rfl
  have hu : unaliasT D (ndT k n [elT t]) = ndT k n [elT t] := unal_lit (by omega) (by omega)
  have := Exp.plain (D := D) (ndT k n [elT t]) [x] (by rw [hu]; omega) (by rw [hu]; omega) (by rw [hu]; rfl) fun i e y he hy => by
    rw [hu] at he
    have he : [elT t][i]? = some e := he
    match i with
    | 0 =>
      obtain rfl : elT t = e := by simpa using he
      obtain rfl : x = y := by simpa using hy
      exact (Eqv.elT t).exp h
    | i + 1 => simp at he
  rw [hu] at this
  have e1 : cN (ndT k n [elT t]) = 0 := by unfold cN; rw [if_neg (by omega)]
  have e2 : vN (ndT k n [elT t]) = false := by unfold vN; rw [if_neg (by omega)]
  have e3 : anN (ndT k n [elT t]) = [] := by unfold anN; rw [if_neg (by omega)]
  rw [e1, e2, e3] at this
  exact this
theorem exp_map {D : List De} {k t : Ty} {x y : X} (hk : Exp D k x) (h : Exp D t y) : Exp D (ndT 5 0 [elT k, elT t]) (nd2 x y) := by
  have hu : unaliasT D (ndT 5 0 [elT k, elT t]) = ndT 5 0 [elT k, elT t] := unal_lit (show (5 : Int) ≠ 0 by decide) (show (5 : Int) ≠ 1 by decide)
  have := Exp.plain (D := D) (ndT 5 0 [elT k, elT t]) [x, y] (by rw [hu]; show (2 : Int) ≤ 5; decide) (by rw [hu]; show (5 : Int) ≤ 8; decide) (by rw [hu]; rfl) fun i e z he hz => by
    rw [hu] at he
    have he : [elT k, elT t][i]? = some e := he
    match i with
    | 0 =>
      obtain rfl : elT k = e := by simpa using he
      obtain rfl : x = z := by simpa using hz
      exact (Eqv.elT k).exp hk
    | 1 =>
      obtain rfl : elT t = e := by simpa using he
      obtain rfl : y = z := by simpa using hz
      exact (Eqv.elT t).exp h
    | i + 2 => simp at he
  rw [hu] at this
  exact this
theorem idX_nd1 {tags : Bool} {k n m : Int} {x y : X} (hk : k = 2 ∨ k = 3 ∨ k = 4 ∨ k = 6) (hn : n = m ∨ k = 4 ∨ k = 6) : idX tags (nd1 k n x) (nd1 k m y) = (n == m && idX tags x y) := by
  unfold nd1
  rw [idX_node, if_neg (by omega)]
  simp only [sameAn, idL, Bool.and_true, beq_self_eq_true, Bool.true_and, List.isEmpty_nil]
  rcases hn with rfl | h
  · simp
  · rw [if_pos h, if_pos h]
theorem idX_nd2 {tags : Bool} {x y x' y' : X} : idX tags (nd2 x y) (nd2 x' y') = (idX tags x x' && idX tags y y') := by
  unfold nd2
  rw [idX_node, if_neg (by decide)]
  simp only [sameAn, idL, Bool.and_true, beq_self_eq_true, Bool.true_and, List.isEmpty_nil]
theorem wf_nd1 {k n : Int} {x : X} (hk : k ≠ 9) (h : WfX x) : WfX (nd1 k n x) := .node _ _ _ _ _ _ (fun h => absurd h hk) fun e he => by simp at he; subst he; exact h
theorem wf_nd2 {x y : X} (h : WfX x) (h' : WfX y) : WfX (nd2 x y) := .node _ _ _ _ _ _ (fun h => absurd h (by decide)) fun e he => by simp at he; rcases he with rfl | rfl <;> assumption
end Go.Proofs.YtlemfkbhcleopaaGreatDoor
namespace Go.Proofs.YtlemfkbhcleopaaGreatDoor
open Go Go.Kd

theorem Shaped.up {D : List De} {i j : Nat} (hij : i ≤ j) {v : Bool} {t : Ty} (h : Shaped D i v t) : Shaped D j v t := by
  induction h with
  | mk v t s _ ih => exact .mk v t ⟨s.lo, s.hi, s.len, s.n0, s.n1, fun hk hv => by have := s.nm hk hv; omega, s.c0, s.c1, s.vr, s.mth⟩ fun j e he => ih j e he
theorem Good.valid {D : List De} {t : Ty} (h : Good D t) (hl : Legal D t) : ValidT D t := by
  obtain ⟨i, v, hi, hs⟩ := h.sh
  exact ⟨(hs.up hi).any _, hl⟩
theorem ValidT.good {D : List De} {t : Ty} (h : ValidT D t) (hw : wt t ≤ 16777216) : Good D t := ⟨⟨_, _, Nat.le_refl _, h.sh⟩, hw⟩
theorem exps_of {D : List De} (hD : OkD D) : ∀ (l : List Ty), (∀ t ∈ l, Good D t) → ∃ xs : List X, xs.length = l.length ∧ ∀ (i : Nat) e x, l[i]? = some e → xs[i]? = some x → Exp D e x
  | [], _ => ⟨[], rfl, fun i e x h => by simp at h⟩
  | t :: r, h => by
    obtain ⟨x, hx⟩ := (h t (List.mem_cons_self ..)).exp hD
    obtain ⟨xs, hl, hxs⟩ := exps_of hD r fun u hu => h u (List.mem_cons_of_mem _ hu)
    refine ⟨x :: xs, by simp [hl], fun i e y he hy => ?_⟩
    match i with
    | 0 => simp at he hy; subst he hy; exact hx
    | i + 1 => exact hxs i e y (by simpa using he) (by simpa using hy)

/-- a function type with these parameters and results -/
def fnT (ins outs : List Ty) (vr : Bool) : Ty := .mk 8 0 ins.length vr ((ins ++ outs).map elT) eB eB false
def fnX (c : Nat) (vr : Bool) (xs : List X) : X := .node 8 0 c vr [] xs
theorem wts_elT : ∀ l : List Ty, wts (l.map elT) ≤ wts l
  | [] => Nat.le_refl _
  | t :: r => by have := wts_elT r; have := wt_elT t; simp only [List.map_cons, wts]; omega
theorem wts_app : ∀ l k : List Ty, wts (l ++ k) = wts l + wts k
  | [], k => by simp [wts]
  | t :: r, k => by simp only [List.cons_append, wts, wts_app r k]; omega
theorem wt_fn (ins outs : List Ty) (vr : Bool) : wt (fnT ins outs vr) ≤ 1 + (wts ins + wts outs) := by
  rw [wt_eq]
  have := wts_elT (ins ++ outs)
  rw [wts_app] at this
  show 1 + (0 + 0) + wts ((ins ++ outs).map elT) ≤ _
  omega
theorem exp_fn {D : List De} {ins outs : List Ty} {vr : Bool} {xs : List X} (hl : xs.length = (ins ++ outs).length) (h : ∀ (i : Nat) e x, (ins ++ outs)[i]? = some e → xs[i]? = some x → Exp D e x) : Exp D (fnT ins outs vr) (fnX ins.length vr xs) := by
  have hu : unaliasT D (fnT ins outs vr) = fnT ins outs vr := unal_lit (show (8 : Int) ≠ 0 by decide) (show (8 : Int) ≠ 1 by decide)
  have := Exp.plain (D := D) (fnT ins outs vr) xs (by rw [hu]; show (2 : Int) ≤ 8; decide) (by rw [hu]; show (8 : Int) ≤ 8; decide) (by rw [hu, hl]; show _ = ((ins ++ outs).map elT).length; rw [List.length_map]) fun i e x he hx => by
    rw [hu] at he
    have he : ((ins ++ outs).map elT)[i]? = some e := he
    rw [List.getElem?_map] at he
    cases hq : (ins ++ outs)[i]? with
    | none => rw [hq] at he; cases he
    | some t =>
      rw [hq] at he
      obtain rfl : elT t = e := by simpa using he
      exact (Eqv.elT t).exp (h i t x hq hx)
  rw [hu] at this
  exact this
theorem valid_fn {D : List De} {ins outs : List Ty} {vr : Bool} (h : ValidT D (fnT ins outs vr)) : ∀ t ∈ ins ++ outs, ValidT D t := fun t ht => by
  obtain ⟨i, hi⟩ := List.getElem?_of_mem ht
  have : (fnT ins outs vr).elems[i]? = some (elT t) := by show ((ins ++ outs).map elT)[i]? = _; rw [List.getElem?_map, hi]; rfl
  exact (Eqv.elT t).symm.valid (h.el this)
theorem names_elT (l : List Ty) : unnamedT (l.map elT) := fun t ht => by
  obtain ⟨u, _, rfl⟩ := List.mem_map.1 ht
  show (eB : ByteArray).toList = []
  rw [Lib.toList_data]
/-- without names -/
def bareT (t : Ty) : Ty := fnT (t.elems.take t.count.toNat) (t.elems.drop t.count.toNat) t.vr
theorem bare_len {D : List De} {i : Nat} {v : Bool} {t : Ty} (hk : t.kind = 8) (h : Shaped D i v t) : ((t.elems.take t.count.toNat).length : Int) = t.count ∧ 0 ≤ t.count ∧ t.count ≤ t.elems.length := by
  have h0 := h.shape.c0 (.inl hk)
  have h1 := h.shape.c1 (.inl hk)
  rw [List.length_take]
  omega
theorem valid_bare {D : List De} {t : Ty} (hk : t.kind = 8) (h : ValidT D t) : ValidT D (bareT t) := by
  obtain ⟨q, h0, h1⟩ := bare_len hk h.sh
  have hel : (bareT t).elems = t.elems.map elT := by show ((t.elems.take t.count.toNat ++ t.elems.drop t.count.toNat).map elT) = _; rw [List.take_append_drop]
  have hcn : (bareT t).count = t.count := q
  have hbk : (bareT t).kind = 8 := rfl
  have at_ : ∀ (j : Nat) e, (bareT t).elems[j]? = some e → ∃ u, t.elems[j]? = some u ∧ e = elT u := fun j e he => by
    rw [hel, List.getElem?_map] at he
    cases hq : t.elems[j]? with
    | none => rw [hq] at he; cases he
    | some u => rw [hq] at he; exact ⟨u, rfl, by simpa using he.symm⟩
  refine ⟨.mk _ _ ⟨by omega, by omega, fun hl => ?_, fun hl => ?_, fun hl => ?_, fun _ => by omega, fun _ => by omega, fun _ => ?_, fun _ hv => ?_, fun _ => by omega⟩ fun j e hj => ?_, .mk _ (fun j e hj => ?_) ⟨fun _ => by omega, fun _ => by omega, fun _ => by omega, fun _ => .inl ?_, fun _ => .inl ?_, fun _ => by omega, fun _ => by omega, fun _ => by omega⟩⟩
  · rw [hbk] at hl; simp [elemsN] at hl
  · rw [hbk] at hl; simp [limitN] at hl
  · rw [hbk] at hl; simp [limitN] at hl
  · rw [hcn, hel, List.length_map]; exact h1
  · obtain ⟨e, e1, e2, e3⟩ := h.sh.shape.vr hk hv
    refine ⟨elT e, by rw [hcn]; exact e1, ?_, e3⟩
    rw [hcn, hel, List.getElem?_map, e2]; rfl
  · obtain ⟨u, hu, rfl⟩ := at_ j e hj
    exact ((Eqv.elT u).shaped (h.el hu).sh).any _
  · obtain ⟨u, hu, rfl⟩ := at_ j e hj
    exact (Eqv.elT u).legal (h.el hu).lg
  · rw [hel, ← List.map_take]; exact names_elT _
  · rw [hel, ← List.map_drop]; exact names_elT _
theorem exp_bare {D : List De} {t : Ty} (hk : t.kind = 8) {i : Nat} {v : Bool} (hs : Shaped D i v t) {x : X} (h : Exp D t x) : Exp D (bareT t) x := by
  have hu : unaliasT D t = t := unal_lit (by omega) (by omega)
  have q := (bare_len hk hs).1
  cases h with
  | leaf _ k => rw [hu] at k; omega
  | iface _ ms es k => rw [hu] at k; omega
  | plain _ es _ _ hl he =>
    rw [hu] at hl he
    have := exp_fn (D := D) (ins := t.elems.take t.count.toNat) (outs := t.elems.drop t.count.toNat) (vr := t.vr) (xs := es) (by rw [List.take_append_drop]; exact hl) (by rw [List.take_append_drop]; exact he)
    unfold bareT
    rw [hu]
    unfold fnX at this
    rw [q] at this
    unfold nN cN vN anN
    rw [if_neg (by omega), if_pos hk, if_pos hk, if_neg (by omega), hk]
    exact this
theorem idX_fn {tags : Bool} {c c' : Nat} {vr vr' : Bool} {xs ys : List X} : idX tags (fnX c vr xs) (fnX c' vr' ys) = (c == c' && vr == vr' && idL tags xs ys) := by
  unfold fnX
  rw [idX_node, if_neg (by decide), show ((c : Int) == (c' : Int)) = (c == c') from by rw [Bool.eq_iff_iff]; simp [Int.ofNat_inj]]
  simp [sameAn]
theorem wf_fn {c : Nat} {vr : Bool} {xs : List X} (h : ∀ x ∈ xs, WfX x) : WfX (fnX c vr xs) := .node _ _ _ _ _ _ (fun h => absurd h (by decide)) h
theorem wf_fn_el {c : Nat} {vr : Bool} {xs : List X} (h : WfX (fnX c vr xs)) : ∀ x ∈ xs, WfX x := by
  cases h; assumption
theorem idL_len {tags : Bool} {xs ys : List X} (h : xs.length ≠ ys.length) : idL tags xs ys = false := by
  cases hb : idL tags xs ys with
  | false => rfl
  | true => exact absurd ((idL_iff tags xs ys).1 hb).1 h
theorem idL_app {tags : Bool} : ∀ {xs xs' : List X} (ys ys' : List X), xs.length = xs'.length → idL tags (xs ++ ys) (xs' ++ ys') = (idL tags xs xs' && idL tags ys ys')
  | [], [], ys, ys', _ => by simp [idL]
  | [], _ :: _, _, _, h => by simp at h
  | _ :: _, [], _, _, h => by simp at h
  | x :: xs, y :: ys, zs, zs', h => by
    simp only [List.cons_append, idL, idL_app (xs := xs) (xs' := ys) zs zs' (by simpa using h), Bool.and_assoc]
/-- functions are identical if their lists are -/
theorem idX_fns {tags : Bool} {vr : Bool} {xs xs' ys ys' : List X} : idX tags (fnX xs.length vr (xs ++ ys)) (fnX xs'.length vr (xs' ++ ys')) = (idL tags xs xs' && idL tags ys ys') := by
  rw [idX_fn]
  by_cases h : xs.length = xs'.length
  · rw [idL_app ys ys' h, h]; simp
  · rw [idL_len h]; simp [h]
end Go.Proofs.YtlemfkbhcleopaaGreatDoor
namespace Go.Proofs.YtlemfkbhcleopaaGreatDoor
open Go Go.Kd

theorem mergeE_nodup : ∀ {L : List (List Mt)} {out : List Mt}, (out.map keyM).Nodup → (∀ l ∈ L, (l.map keyM).Nodup) → ((mergeE L out).map keyM).Nodup
  | [], _, h, _ => h
  | l :: L, out, h, hL => by
    show ((mergeE L (l.foldl addM out)).map keyM).Nodup
    refine mergeE_nodup ?_ fun k hk => hL k (List.mem_cons_of_mem _ hk)
    have hl := hL l (List.mem_cons_self ..)
    rw [addM_fold hl, List.map_append, List.nodup_append]
    refine ⟨h, (List.filter_sublist.map _).nodup hl, fun a ha b hb => ?_⟩
    obtain ⟨m, hm, rfl⟩ := List.mem_map.1 hb
    have := (List.mem_filter.1 hm).2
    simp only [decide_eq_true_eq] at this
    exact fun e => this (e ▸ ha)
/-- how the methods of an interface came about -/
theorem IM.inv {D : List De} {t u : Ty} {c : Nat} {ms : List Mt} (hu : underT D t = u) (h9 : u.kind = 9) (hc : u.count = c) (hcl : c ≤ u.elems.length) (h : IM D t ms) :
    ∃ L, L.length = u.elems.length - c ∧ (∀ (j : Nat) e l, u.elems[c + j]? = some e → L[j]? = some l → IM D e l) ∧ ms = mergeE L (ownM u c) := by
  subst hu
  cases h with
  | no _ k => exact absurd h9 k
  | yes _ L _ hl h1 h2 =>
    have hlen : (L.take c).length = c := by rw [List.length_take]; omega
    have hown : L.take c = ((underT D t).elems.take c).map (fun e => [(⟨e.name, (underT D t).n, e⟩ : Mt)]) := by
      refine lists_eq _ _ (by simp; omega) fun i a b ha hb => ?_
      have hi : i < c := by rw [← hlen]; exact (List.getElem?_eq_some_iff.1 ha).1
      rw [List.getElem?_take_of_lt hi] at ha
      rw [List.getElem?_map, List.getElem?_take_of_lt hi] at hb
      cases he : (underT D t).elems[i]? with
      | none => rw [he] at hb; cases hb
      | some e =>
        rw [he] at hb
        rw [h1 i e a he ha (by omega)]
        exact Option.some.inj hb
    refine ⟨L.drop c, by simp; omega, fun j e l he hj => ?_, ?_⟩
    · rw [List.getElem?_drop] at hj
      exact h2 (c + j) e l he hj (by omega)
    · conv => lhs; rw [← List.take_append_drop c L]
      rw [mergeM_lo _ _ _ 0 [] (by rw [hlen, hc]; simp), mergeM_hi _ _ _ _ (by rw [hlen, hc]; simp), List.nil_append, hown, flatten_single (fun e => (⟨e.name, (underT D t).n, e⟩ : Mt))]
      rfl
/-- an interface's methods have names of their own -/
theorem IM_nodup {D : List De} (hD : OkD D) (hV : ValidD D) {t : Ty} {ms : List Mt} (h : IM D t ms) : Good D t → Legal D t → (ms.map keyM).Nodup := by
  induction h with
  | no => intros; simp
  | yes t L h9 hl h1 h2 ih =>
    intro hG hL
    have hGu := hG.under hD
    have hLu := legal_under hV hG hL
    obtain ⟨i, v, _, hs⟩ := hGu.sh
    have c0 := hs.shape.c0 (.inr h9)
    have c1 := hs.shape.c1 (.inr h9)
    obtain ⟨c, hc⟩ : ∃ c : Nat, (underT D t).count = c := ⟨(underT D t).count.toNat, by omega⟩
    obtain ⟨L', l1, l2, e⟩ := IM.inv rfl h9 hc (by omega) (.yes t L h9 hl h1 h2)
    rw [e]
    refine mergeE_nodup (own_nodup (by have := hLu.here.unq h9; rwa [hc, Int.toNat_natCast] at this) fun i e he hi => hLu.here.mth h9 i e he (by omega)) fun l hl' => ?_
    obtain ⟨j, hj⟩ := List.getElem?_of_mem hl'
    have hlt := (List.getElem?_eq_some_iff.1 hj).1
    have hel : (underT D t).elems[c + j]? = some (underT D t).elems[c + j] := List.getElem?_eq_getElem (by omega)
    have hL0 : L[c + j]? = some L[c + j] := List.getElem?_eq_getElem (by omega)
    have := IM.det (l2 j _ l hel hj) (h2 (c + j) _ _ hel hL0 (by omega))
    rw [this]
    exact ih (c + j) _ _ hel hL0 (by omega) (hGu.el hel) (hLu.el _ _ hel)
theorem IM_legal {D : List De} (hD : OkD D) (hV : ValidD D) {t : Ty} {ms : List Mt} (h : IM D t ms) (hG : Good D t) (hL : Legal D t) : ∀ m ∈ ms, Legal D m.fn := legal_IM hV hD h hG hL
theorem anM_keyA (ms : List Mt) : (anM ms).map keyA = ms.map keyM := by unfold anM; rw [List.map_map]; rfl
/-- a legal type's tree is well-formed -/
theorem exp_wf {D : List De} (hD : OkD D) (hV : ValidD D) {t : Ty} {x : X} (h : Exp D t x) : Good D t → Legal D t → WfX x := by
  induction h with
  | leaf t hk => exact fun _ _ => .leaf _ _
  | plain t es h2 h8 hl _ ih =>
    intro hG hL
    refine .node _ _ _ _ _ _ (fun h => by omega) fun e he => ?_
    obtain ⟨i, hi⟩ := List.getElem?_of_mem he
    have hlt := (List.getElem?_eq_some_iff.1 hi).1
    have hel : (unaliasT D t).elems[i]? = some (unaliasT D t).elems[i] := List.getElem?_eq_getElem (by omega)
    exact ih i _ e hel hi ((hG.unalias hD).el hel) ((legal_unalias hV hG hL).el _ _ hel)
  | iface t ms es h9 hm hl _ ih =>
    intro hG hL
    have hG' := hG.unalias hD
    have hL' := legal_unalias hV hG hL
    refine .node _ _ _ _ _ _ (fun _ => ⟨by unfold anM; rw [List.length_map, hl], by rw [anM_keyA]; exact IM_nodup hD hV hm hG' hL'⟩) fun e he => ?_
    obtain ⟨i, hi⟩ := List.getElem?_of_mem he
    have hlt := (List.getElem?_eq_some_iff.1 hi).1
    have hel : ms[i]? = some ms[i] := List.getElem?_eq_getElem (by omega)
    exact ih i _ e hel hi (IM_good hD hm hG' _ (List.mem_of_getElem? hel)) (IM_legal hD hV hm hG' hL' _ (List.mem_of_getElem? hel))

/-! ### Interfaces that embed others -/
def unT (l : List Ty) : Ty := ndT 9 0 (l.map elT)
theorem unT_el (l : List Ty) : (unT l).elems = l.map elT := rfl
theorem unT_kind (l : List Ty) : (unT l).kind = 9 := rfl
theorem unT_under {D : List De} (l : List Ty) : underT D (unT l) = unT l := by
  rw [under_lit (by rw [unT_kind]; decide) (by rw [unT_kind]; omega), norm_named (by rw [unT_kind]; decide)]
theorem im_un {D : List De} {l : List Ty} (L : List (List Mt)) (hl : L.length = l.length) (h : ∀ (i : Nat) e k, l[i]? = some e → L[i]? = some k → IM D e k) : IM D (unT l) (mergeE L []) := by
  have := IM.of (D := D) (t := unT l) (u := unT l) (c := 0) (unT_under l) rfl rfl (Nat.zero_le _) L (by rw [unT_el, List.length_map]; omega) fun j e k he hk => by
    rw [unT_el, Nat.zero_add, List.getElem?_map] at he
    cases hq : l[j]? with
    | none => rw [hq] at he; cases he
    | some t =>
      rw [hq] at he
      obtain rfl : elT t = e := by simpa using he
      exact (Eqv.elT t).im (h j t k hq hk)
  exact this
theorem fold_self {l : List Mt} (h : (l.map keyM).Nodup) : l.foldl addM [] = l := by
  rw [addM_fold h, List.nil_append]
  simp
theorem fold_again {l : List Mt} (h : (l.map keyM).Nodup) : l.foldl addM l = l := by
  rw [addM_fold h]
  have : l.filter (fun m => decide (keyM m ∉ l.map keyM)) = [] := by
    rw [List.filter_eq_nil_iff]
    intro m hm
    simp only [decide_eq_true_eq, Classical.not_not]
    exact List.mem_map_of_mem hm
  rw [this, List.append_nil]
/-- .. the same ones: nothing but that one's methods -/
theorem im_same {D : List De} {l : List Ty} {ms : List Mt} (hn : (ms.map keyM).Nodup) (hne : l ≠ []) (h : ∀ e ∈ l, IM D e ms) : IM D (unT l) ms := by
  have h1 := im_un (D := D) (l := l) (l.map fun _ => ms) (by rw [List.length_map]) fun i e k he hk => by
    rw [List.getElem?_map, he] at hk
    obtain rfl : ms = k := by simpa using hk
    exact h e (List.mem_of_getElem? he)
  have h2 : ∀ l : List Ty, mergeE (l.map fun _ => ms) ms = ms := fun l => by
    induction l with
    | nil => rfl
    | cons a r ih => show mergeE (r.map fun _ => ms) (ms.foldl addM ms) = ms; rw [fold_again hn]; exact ih
  have h3 : mergeE (l.map fun _ => ms) [] = ms := by
    match l, hne with
    | a :: r, _ => show mergeE (r.map fun _ => ms) (ms.foldl addM []) = ms; rw [fold_self hn]; exact h2 r
  rw [h3] at h1
  exact h1
theorem under_idem {D : List De} {t : Ty} (h9 : (underT D t).kind = 9) : underT D (underT D t) = underT D t := by
  have h1 : (underT D t).kind ≠ 1 := by omega
  rw [under_lit h1 (by omega), norm_named (by omega)]
theorem IM.of_under {D : List De} {t u : Ty} (h : underT D t = underT D u) {ms : List Mt} (hm : IM D t ms) : IM D u ms := hm.under h
theorem exp_iface {D : List De} {t : Ty} {ms : List Mt} {es : List X} (h9 : t.kind = 9) (hm : IM D t ms) (hl : es.length = ms.length) (he : ∀ (i : Nat) m x, ms[i]? = some m → es[i]? = some x → Exp D m.fn x) : Exp D t (.node 9 0 0 false (anM ms) es) := by
  have hu : unaliasT D t = t := unal_lit (by omega) (by omega)
  exact .iface t ms es (by rw [hu]; exact h9) (by rw [hu]; exact hm) hl he
theorem find_nodup {l : List Mt} (hn : (l.map keyM).Nodup) {m n : Mt} (hm : m ∈ l) (h : findM l m.name.toList m.pkg = some n) : n = m := by
  have h1 := List.mem_of_find?_eq_some h
  have h2 := List.find?_some h
  have hk : keyM n = keyM m := sameNm_iff.1 h2
  obtain ⟨i, hi⟩ := List.getElem?_of_mem h1
  obtain ⟨j, hj⟩ := List.getElem?_of_mem hm
  have hij : i = j := by
    refine (List.getElem?_inj (l := l.map keyM) (by rw [List.length_map]; exact (List.getElem?_eq_some_iff.1 hi).1) hn).1 ?_
    rw [List.getElem?_map, List.getElem?_map, hi, hj]
    simp [hk]
  subst hij
  rw [hi] at hj
  exact Option.some.inj hj
/-- an interface that embeds interfaces with the same methods is legal -/
theorem valid_un {D : List De} (hD : OkD D) (hV : ValidD D) {l : List Ty} {ms : List Mt} (hne : l ≠ []) (hm : ∀ e ∈ l, ValidT D e ∧ wt e ≤ 16777216 ∧ (underT D e).kind = 9 ∧ IM D e ms) : ValidT D (unT l) := by
  have hn : (ms.map keyM).Nodup := by
    match l, hne with
    | a :: r, _ =>
      obtain ⟨h1, h2, _, h3⟩ := hm a (List.mem_cons_self ..)
      exact IM_nodup hD hV h3 (h1.good h2) h1.lg
  have at_ : ∀ (j : Nat) e, (unT l).elems[j]? = some e → ∃ u ∈ l, e = elT u := fun j e he => by
    rw [unT_el, List.getElem?_map] at he
    cases hq : l[j]? with
    | none => rw [hq] at he; cases he
    | some u => rw [hq] at he; exact ⟨u, List.mem_of_getElem? hq, by simpa using he.symm⟩
  have hk := unT_kind l
  have hc : (unT l).count = 0 := rfl
  have him := im_same hn hne fun e he => (hm e he).2.2.2
  refine ⟨.mk _ _ ⟨by omega, by omega, fun hl => ?_, fun _ => Int.le_refl 0, fun _ => ?_, fun _ => by omega, fun _ => by omega, fun _ => by omega, fun _ => by omega, fun _ j e he hj => by omega⟩ fun j e hj => ?_, .mk _ (fun j e hj => ?_) ⟨fun _ => by omega, fun _ => by omega, fun _ => by omega, fun _ => by omega, fun _ => by omega, fun _ i e _ hi => by omega, fun _ => ?_, fun _ => ⟨ms, him, fun i e he _ => ?_, fun i e he _ => ?_⟩⟩⟩
  · rw [hk] at hl; simp [elemsN] at hl
  · rw [hk]; show (0 : Int) < 2; decide
  · obtain ⟨u, hu, rfl⟩ := at_ j e hj
    exact ((Eqv.elT u).shaped (hm u hu).1.sh).any _
  · obtain ⟨u, hu, rfl⟩ := at_ j e hj
    exact (Eqv.elT u).legal (hm u hu).1.lg
  · rw [hc]
    exact ⟨fun i s hs => by simp [names] at hs, fun i j s _ hs => by simp [names] at hs⟩
  · obtain ⟨u, hu, rfl⟩ := at_ i e he
    rw [← ((Eqv.elT u).under (D := D)).kd]
    exact (hm u hu).2.2.1
  · obtain ⟨u, hu, rfl⟩ := at_ i e he
    obtain ⟨h1, h2, h3, h4⟩ := hm u hu
    refine ⟨ms, (Eqv.elT u).im h4, fun m hmm n hf => ?_⟩
    obtain rfl := find_nodup hn hmm hf
    have hg := IM_good hD h4 (h1.good h2) n hmm
    obtain ⟨x, hx⟩ := hg.exp hD
    exact ⟨x, x, hx, hx, idX_refl _ _ (exp_wf hD hV hx hg (IM_legal hD hV h4 (h1.good h2) h1.lg n hmm))⟩
end Go.Proofs.YtlemfkbhcleopaaGreatDoor
namespace Go.Kd

/-- an operation of a drawn region: its number, where its result goes, what holds of the result from then on; B: the new blocks that it made for the result -/
structure Tsk where
  i : Nat
  d : Nat
  o : Oper
  B : Value → Nat → Prop
  F : Value → World → Prop
def AllT (p : Tsk → Prop) : List Tsk → Prop
  | [] => True
  | t :: T => p t ∧ AllT p T
theorem AllT.mem {p : Tsk → Prop} : ∀ {T : List Tsk}, AllT p T → ∀ t ∈ T, p t
  | [], _, _, h => by cases h
  | _ :: _, h, t, ht => by
    rcases List.mem_cons.1 ht with rfl | ht
    · exact h.1
    · exact AllT.mem h.2 t ht
def nodupB : List Nat → Bool
  | [] => true
  | a :: l => !l.contains a && nodupB l
theorem eq_of_nodupB {f : Tsk → Nat} : ∀ {T : List Tsk}, nodupB (T.map f) = true → ∀ t ∈ T, ∀ t' ∈ T, f t = f t' → t = t'
  | [], _, _, h, _, _, _ => by cases h
  | a :: T, h, t, ht, t', ht', he => by
    simp only [List.map_cons, nodupB, Bool.and_eq_true, Bool.not_eq_true', List.contains_eq_mem, decide_eq_false_iff_not] at h
    rcases List.mem_cons.1 ht with h1 | h1 <;> rcases List.mem_cons.1 ht' with h2 | h2
    · rw [h1, h2]
    · exact absurd (List.mem_map.2 ⟨t', h2, by rw [← h1]; exact he.symm⟩) h.1
    · exact absurd (List.mem_map.2 ⟨t, h1, by rw [← h2]; exact he⟩) h.1
    · exact eq_of_nodupB h.2 t h1 t' h2 he
/-- what is to be shown behind them -/
def ContT (w : World) : (Env → Prop) → List Tsk → List (Nat → Prop) → Env → Prop
  | K, [], _, e => K e
  | K, t :: T, acc, e => ∀ v, t.F v w → (∀ q ∈ acc, ∀ b, q b → ¬ t.B v b) → ContT w (fun e' => K ((t.d, v) :: e')) T (t.B v :: acc) e
/-- whatever order is drawn: those of the list are the ones that come -/
def freeOk (ops : Array Oper) (target : Array Bool) : Nat → List Nat → Array Bool → Bool
  | 0, _, L => L == target
  | m + 1, rem, L => !(Region.ready .any ops L).isEmpty && (Region.ready .any ops L).all fun i => rem.contains i && freeOk ops target m (rem.erase i) (L.setIfInBounds i true)
theorem ContT.use {w : World} {e' : Env} (T0 : List Tsk) (hd : ∀ t ∈ T0, ∃ v, lk e' t.d = some v ∧ t.F v w) (hS : ∀ t ∈ T0, ∀ t' ∈ T0, t.d ≠ t'.d → ∀ v v', lk e' t.d = some v → lk e' t'.d = some v' → ∀ b, t.B v b → ¬ t'.B v' b) :
    ∀ (T : List Tsk) (K : Env → Prop) (acc : List (Nat → Prop)) (e : Env), (∀ t ∈ T, t ∈ T0) → nodupB (T.map (·.d)) = true → (∀ q ∈ acc, ∃ t ∈ T0, ∃ u, q = t.B u ∧ lk e' t.d = some u ∧ t.d ∉ T.map (·.d)) → (∀ i u, lk e i = some u → lk e' i = some u) → ContT w K T acc e → ∃ e1, (∀ i u, lk e1 i = some u → lk e' i = some u) ∧ K e1
  | [], K, acc, e, _, _, _, he, h => ⟨e, he, h⟩
  | t :: T, K, acc, e, hT, hn, ha, he, h => by
    have ht0 := hT t (List.mem_cons_self ..)
    obtain ⟨v, hv, hF⟩ := hd t ht0
    simp only [List.map_cons, nodupB, Bool.and_eq_true, Bool.not_eq_true', List.contains_eq_mem, decide_eq_false_iff_not] at hn
    obtain ⟨e1, h1, h2⟩ := ContT.use T0 hd hS T (fun e' => K ((t.d, v) :: e')) _ e (fun t' ht' => hT t' (List.mem_cons_of_mem _ ht')) hn.2 (fun q hq => by
      rcases List.mem_cons.1 hq with rfl | hq
      · exact ⟨t, ht0, v, rfl, hv, hn.1⟩
      · obtain ⟨r, q1, u, q2, q3, q4⟩ := ha q hq
        exact ⟨r, q1, u, q2, q3, fun hm => q4 (List.mem_cons_of_mem _ hm)⟩) he (h v hF fun q hq b hb => by
      obtain ⟨r, q1, u, rfl, q3, q4⟩ := ha q hq
      exact hS r q1 t ht0 (fun hd => q4 (by rw [hd]; exact List.mem_cons_self ..)) u v q3 hv b hb)
    refine ⟨(t.d, v) :: e1, fun i u hiu => ?_, h2⟩
    rw [lk_cons] at hiu
    split at hiu
    · rename_i hi
      rw [← hi, ← hiu]; exact hv
    · exact h1 i u hiu
section
variable {P : Program} {n : Nat} {ops : List Oper} {Q : Post} {D : List Deferred} {e : Env} {w : World}
theorem WT.sub {L : Array Bool} {k : Nat} {e' : Env} (hs : ∀ i v, lk e i = some v → lk e' i = some v) (h : WT P n ops Q L k D e w) : WT P n ops Q L k D e' w := ⟨fun hcl a ha => h.out hcl a (ha.sub hs)⟩
theorem WT.free (T : List Tsk) (k : Nat) {m : Nat} {L0 : Array Bool} (L1 : Array Bool) (hkm : (k + T.length == m) = true) (hok : freeOk ops.toArray L1 T.length (T.map (·.i)) L0 = true) (hni : nodupB (T.map (·.i)) = true) (hnd : nodupB (T.map (·.d)) = true)
    (hi : AllT (fun t => ops[t.i]? = some t.o ∧ t.o.dst = some t.d ∧ Nat.blt t.d n = true ∧ wn ops e t.o.guard = some true ∧ lk e t.d = none) T)
    (hs : AllT (fun t => ∀ w', Ext w w' → Stp P e t.o w' (fun v w'' => Ext w' w'' ∧ t.F v w'' ∧ ∀ b, t.B v b → w'.heap.size ≤ b)) T)
    (hm : AllT (fun t => (∀ v w1 w2, Ext w1 w2 → t.F v w1 → t.F v w2) ∧ ∀ v w1, t.F v w1 → ∀ b, t.B v b → b < w1.heap.size) T)
    (hk : ∀ w', Ext w w' → ContT w' (fun e' => WT P n ops Q L1 k D e' w') T [] e) : WT P n ops Q L0 m D e w := by
  obtain rfl : k + T.length = m := by simpa using hkm
  have hi := hi.mem
  have hs := hs.mem
  have hm := hm.mem
  have uI := eq_of_nodupB (f := (·.i)) hni
  have uD := eq_of_nodupB (f := (·.d)) hnd
  have main : ∀ (m : Nat) (rem : List Nat) (L : Array Bool) (e' : Env) (w' : World), freeOk ops.toArray L1 m rem L = true → rem.length = m → (∀ i ∈ rem, ∃ t ∈ T, t.i = i) →
      (∀ t ∈ T, t.i ∈ rem ∨ ∃ v, lk e' t.d = some v ∧ t.F v w') → (∀ t ∈ T, ∀ t' ∈ T, t.i ∉ rem → t'.i ∉ rem → t.d ≠ t'.d → ∀ v v', lk e' t.d = some v → lk e' t'.d = some v' → ∀ b, t.B v b → ¬ t'.B v' b) →
      (∀ i v, lk e i = some v → lk e' i = some v) → Ext w w' → WT P n ops Q L (k + m) D e' w' := by
    intro m
    induction m with
    | zero =>
      intro rem L e' w' h1 h2 _ h4 hS h5 hx
      obtain rfl : rem = [] := List.length_eq_zero_iff.1 h2
      obtain rfl : L = L1 := by simpa [freeOk] using h1
      obtain ⟨e1, q1, q2⟩ := ContT.use T (fun t ht => (h4 t ht).resolve_left (by simp)) (fun t ht t' ht' => hS t ht t' ht' (by simp) (by simp)) T _ [] e (fun _ h => h) hnd (fun u hu => absurd hu List.not_mem_nil) h5 (hk w' hx)
      exact q2.sub q1
    | succ m ih =>
      intro rem L e' w' h1 h2 h3 h4 hS h5 hx
      unfold freeOk at h1
      simp only [Bool.and_eq_true, Bool.not_eq_true', List.all_eq_true, List.isEmpty_eq_false_iff] at h1
      obtain ⟨hne, hall⟩ := h1
      refine ⟨fun hcl a ha => ⟨fun h0 => absurd h0 hne, fun i hir => ?_⟩⟩
      obtain ⟨hc, hf⟩ := hall i hir
      have hmem : i ∈ rem := by simpa using hc
      obtain ⟨t, ht, rfl⟩ := h3 i hmem
      obtain ⟨q1, q2, q3, q4, q5⟩ := hi t ht
      have q1' : ops.toArray[t.i]? = some t.o := by simpa using q1
      have ha0 : Fr n D e a := ha.sub h5
      unfold wpOp
      simp only [q1']
      rw [wn_spec q4 ha0, if_pos rfl]
      refine .inl (upon_of_stp ha0 (hs t ht w' hx) fun v w'' ⟨hx', hF, hfr⟩ => ⟨.inl hx', ?_⟩)
      have hp : Fr n D ((t.d, v) :: e') (a.put t.o.dst v) := by rw [q2]; exact ha.put (by simpa [Nat.blt_eq] using q3) v
      have old : ∀ t' ∈ T, t'.i ∉ rem.erase t.i → t'.i ≠ t.i → t'.i ∉ rem := fun t' _ h hne hm' => h ((List.mem_erase_of_ne hne).2 hm')
      have oth : ∀ t' ∈ T, t'.i ≠ t.i → ∀ u, lk ((t.d, v) :: e') t'.d = some u → lk e' t'.d = some u := fun t' ht' hne u h => by
        rwa [lk_cons, if_neg fun hd => hne (by rw [uD t ht t' ht' hd])] at h
      have new : ∀ t' ∈ T, t'.i ∉ rem.erase t.i → t'.i ≠ t.i → ∀ u, lk ((t.d, v) :: e') t'.d = some u → ∀ b, t'.B u b → ¬ t.B v b := fun t' ht' hr hne u hu b hb hb' => by
        have h6 := oth t' ht' hne u hu
        obtain ⟨u', h7, h8⟩ := (h4 t' ht').resolve_left (old t' ht' hr hne)
        rw [h6] at h7
        cases h7
        have := (hm t' ht').2 u w' h8 b hb
        have := hfr b hb'
        omega
      refine (ih (rem.erase t.i) (L.setIfInBounds t.i true) ((t.d, v) :: e') w'' hf (by rw [List.length_erase_of_mem hmem, h2]; rfl) (fun i hi' => h3 i (List.mem_of_mem_erase hi')) (fun t' ht' => ?_) (fun t1 ht1 t2 ht2 r1 r2 hne v1 v2 l1 l2 => ?_) (fun i u hiu => ?_) (hx.trans hx')).out (hcl.step hir) _ hp
      · by_cases he : t'.i = t.i
        · obtain rfl := uI t' ht' t ht he
          exact .inr ⟨v, by rw [lk_cons, if_pos rfl], hF⟩
        · rcases h4 t' ht' with h | ⟨u, h6, h7⟩
          · exact .inl ((List.mem_erase_of_ne he).2 h)
          · refine .inr ⟨u, ?_, (hm t' ht').1 u w' w'' hx' h7⟩
            rw [lk_cons, if_neg fun hd => he (by rw [uD t ht t' ht' hd])]
            exact h6
      · by_cases e1 : t1.i = t.i
        · obtain rfl := uI t1 ht1 t ht e1
          have e2 : t2.i ≠ t1.i := fun h => hne (by rw [uI t2 ht2 t1 ht1 h])
          rw [lk_cons, if_pos rfl] at l1
          cases l1
          exact fun b hb hb' => new t2 ht2 r2 e2 v2 l2 b hb' hb
        · by_cases e2 : t2.i = t.i
          · obtain rfl := uI t2 ht2 t ht e2
            rw [lk_cons, if_pos rfl] at l2
            cases l2
            exact fun b => new t1 ht1 r1 e1 v1 l1 b
          · exact hS t1 ht1 t2 ht2 (old t1 ht1 r1 e1) (old t2 ht2 r2 e2) hne v1 v2 (oth t1 ht1 e1 v1 l1) (oth t2 ht2 e2 v2 l2)
      · rw [lk_cons, if_neg fun hd => by rw [← hd, q5] at hiu; cases hiu]
        exact h5 i u hiu
  exact main T.length (T.map (·.i)) L0 e w hok (by simp) (fun i hi => by simpa using hi) (fun t ht => .inl (List.mem_map_of_mem ht)) (fun t ht t' ht' r1 => absurd (List.mem_map_of_mem ht) r1) (fun _ _ h => h) (Ext.rfl' w)
end
end Go.Kd
namespace Go.Proofs.YtlemfkbhcleopaaGreatDoor.Law
open Go Go.Kd
set_option maxRecDepth 100000

abbrev E0 : ByteArray := ⟨#[]⟩
theorem c_place (n k : Int) (w : World) (hk : 0 < k ∧ k ≤ 1000000) :
    Calls Tryz.prog 17 #[.int .i64 n, .int .i64 k] w (Ret fun r w' => r = .int .i64 (n % k) ∧ w = w') := by
  have h1 : -k < n.tmod k ∧ n.tmod k < k := ⟨by have := Int.lt_tmod_of_pos n hk.1; omega, Int.tmod_lt_of_pos n hk.1⟩
  have h2 : (n.tmod k + k).tmod k = n % k := by
    rw [Int.tmod_eq_emod_of_nonneg (by omega), Int.add_emod_right, Int.tmod_def, Int.sub_eq_add_neg, ← Int.mul_neg, Int.add_mul_emod_self_left]
  refine W.enter (args := [.int .i64 n, .int .i64 k]) Tryz.func17 rfl Tryz.ntmps17 rfl rfl ?_
  refine zst ?_
  refine WU.yld rfl rfl rfl (yld_rem rfl rfl (by omega)) ?_
  refine zst ?_
  refine WU.yld rfl rfl rfl (yld_rem rfl rfl (by omega)) ?_
  refine zst ?_
  exact fin1 (.inl rfl) rfl rfl ⟨by rw [h2], rfl⟩

theorem c_of (k n : Int) (a : Option Addr) (l c : Nat) (w : World) :
    Calls Tryz.prog 21 #[.int .i64 k, .int .i64 n, .slice a l c] w
      (Ret fun r w' => r = tyv k n 0 false (.slice a l c) E0 E0 false ∧ Ext w w') := by
  refine W.enter (args := [.int .i64 k, .int .i64 n, .slice a l c]) Tryz.func21 rfl Tryz.ntmps21 rfl rfl ?_
  refine zst ?_
  refine WU.stp rfl rfl rfl stp_alloc ?_
  rintro _ w1 ⟨b1, rfl, n1⟩
  refine zst ?_
  refine WU.stp0 rfl rfl (stp_store_whole rfl rfl rfl rfl) ?_
  rintro _ w2 u2
  refine zst ?_
  exact finc (.inl rfl) rfl rfl ⟨rfl, (u2.ofNew n1).ext⟩

theorem c_basic (n : Int) (w : World) :
    Calls Tryz.prog 27 #[.int .i64 n] w
      (Ret fun r w' => r = tyv 0 n 0 false (.slice none 0 0) E0 E0 false ∧ Ext w w') := by
  refine W.enter (args := [.int .i64 n]) Tryz.func27 rfl Tryz.ntmps27 rfl rfl ?_
  refine zst ?_
  refine WU.stp rfl rfl rfl stp_alloc ?_
  rintro _ w1 ⟨b1, rfl, n1⟩
  refine zst ?_
  refine WU.stp rfl rfl rfl (stp_call rfl (c_of 0 n none 0 0 w1)) ?_
  rintro _ w2 ⟨rfl, x2⟩
  refine WU.stp0 rfl rfl (stp_store_whole rfl rfl rfl rfl) ?_
  rintro _ w3 u3
  refine zst ?_
  exact finc (.inl rfl) rfl rfl ⟨rfl, u3.ext (n1.ext.trans x2) (Nat.le_of_eq n1.num.symm)⟩

theorem c_field (nm tg : ByteArray) (k n c : Int) (vr : Bool) (a : Option Addr) (l cp : Nat) (nm' tg' : ByteArray) (em : Bool) (w : World) :
    Calls Tryz.prog 19 #[.string nm, tyv k n c vr (.slice a l cp) nm' tg' em, .string tg] w
      (Ret fun r w' => r = tyv k n c vr (.slice a l cp) nm tg false ∧ Ext w w') := by
  refine W.enter (args := [.string nm, tyv k n c vr (.slice a l cp) nm' tg' em, .string tg]) Tryz.func19 rfl Tryz.ntmps19 rfl rfl ?_
  refine zst ?_
  refine WU.stp rfl rfl rfl (by first | exact stp_box rfl rfl | exact stp_box1 rfl rfl) ?_
  rintro _ w1 ⟨b1, rfl, n1⟩
  refine WU.stp rfl rfl rfl stp_alloc ?_
  rintro _ w2 ⟨b2, rfl, n2⟩
  have hb := n1.num
  have hb2 := n2.num
  have hs := n1.size
  refine zst ?_
  refine WU.stp0 rfl rfl (stp_store_cell rfl rfl rfl rfl) ?_
  rintro _ w3 u3
  refine zst ?_
  refine WU.stp0 rfl rfl (stp_store_cell rfl rfl rfl rfl) ?_
  rintro _ w4 u4
  refine zst ?_
  refine WU.stp0 rfl rfl (stp_store_cell rfl rfl rfl rfl) ?_
  rintro _ w5 u5
  refine zst ?_
  have i5 : Has w5 b2 _ := u5.keep (u4.keep (u3.keep inferInstance (by omega)) (by omega)) (by omega)
  refine WU.stp0 rfl rfl (stp_store_whole rfl rfl rfl rfl) ?_
  rintro _ w6 u6
  refine zst ?_
  have x5 : Ext w w5 := u5.ext (u4.ext (u3.ext (n1.ext.trans n2.ext) (by omega)) (by omega)) (by omega)
  exact finc (.inl rfl) rfl rfl ⟨rfl, u6.ext x5 (by omega)⟩

theorem c_element (k n c : Int) (vr : Bool) (a : Option Addr) (l cp : Nat) (nm tg : ByteArray) (em : Bool) (w : World) :
    Calls Tryz.prog 47 #[tyv k n c vr (.slice a l cp) nm tg em] w
      (Ret fun r w' => r = tyv k n c vr (.slice a l cp) E0 E0 false ∧ Ext w w') := by
  refine W.enter (args := [tyv k n c vr (.slice a l cp) nm tg em]) Tryz.func47 rfl Tryz.ntmps47 rfl rfl ?_
  refine zst ?_
  refine WU.stp rfl rfl rfl (by first | exact stp_box rfl rfl | exact stp_box1 rfl rfl) ?_
  rintro _ w1 ⟨b1, rfl, n1⟩
  refine WU.stp rfl rfl rfl stp_alloc ?_
  rintro _ w2 ⟨b2, rfl, n2⟩
  have hb := n1.num
  have hb2 := n2.num
  have hs := n1.size
  refine zst ?_
  refine WU.stp rfl rfl rfl (stp_call rfl (c_field E0 E0 k n c vr a l cp nm tg em w2)) ?_
  rintro _ w3 ⟨rfl, x3⟩
  refine WU.stp0 rfl rfl (stp_store_whole rfl rfl rfl rfl) ?_
  rintro _ w4 u4
  refine zst ?_
  exact finc (.inl rfl) rfl rfl ⟨rfl, u4.ext (n1.ext.trans (n2.ext.trans x3)) (by omega)⟩

/-- pointer, slice -/
theorem c_pointer (k n c : Int) (vr : Bool) (a : Option Addr) (l cp : Nat) (nm tg : ByteArray) (em : Bool) (w : World) :
    Calls Tryz.prog 23 #[tyv k n c vr (.slice a l cp) nm tg em] w
      (Ret fun r w' => ∃ b, r = tyv 2 0 0 false (.slice (some ⟨b, 0, none⟩) 1 1) E0 E0 false ∧ Has w' b (.cells (tyl k n c vr (.slice a l cp) E0 E0 false).toArray 26) ∧ w.heap.size ≤ b ∧ Ext w w') := by
  refine W.enter (args := [tyv k n c vr (.slice a l cp) nm tg em]) Tryz.func23 rfl Tryz.ntmps23 rfl rfl ?_
  refine zst ?_
  refine WU.stp rfl rfl rfl (by first | exact stp_box rfl rfl | exact stp_box1 rfl rfl) ?_
  rintro _ w1 ⟨b1, rfl, n1⟩
  refine WU.stp rfl rfl rfl stp_alloc ?_
  rintro _ w2 ⟨b2, rfl, n2⟩
  have hb := n1.num
  have hb2 := n2.num
  have hs := n1.size
  refine zst ?_
  refine WU.stp rfl rfl rfl (stp_call rfl (c_element k n c vr a l cp nm tg em w2)) ?_
  rintro _ w3 ⟨rfl, x3⟩
  refine WU.stp rfl rfl rfl (stp_buildSlice rfl rfl rfl rfl rfl) ?_
  rintro _ w4 ⟨b4, rfl, n4⟩
  refine WU.stp rfl rfl rfl (stp_call rfl (c_of 2 0 (some ⟨b4, 0, none⟩) 1 1 w4)) ?_
  rintro _ w5 ⟨rfl, x5⟩
  have h2 := n2.has.lt
  have s3 := x3.size
  have hb4 := n4.num
  refine WU.stp0 rfl rfl (stp_store_whole rfl rfl rfl rfl) ?_
  rintro _ w6 u6
  refine zst ?_
  exact finc (.inl rfl) rfl rfl ⟨b4, rfl, u6.keep inferInstance (by omega), by omega, u6.ext (n1.ext.trans (n2.ext.trans (x3.trans (n4.ext.trans x5)))) (by omega)⟩
theorem c_slice (k n c : Int) (vr : Bool) (a : Option Addr) (l cp : Nat) (nm tg : ByteArray) (em : Bool) (w : World) :
    Calls Tryz.prog 25 #[tyv k n c vr (.slice a l cp) nm tg em] w
      (Ret fun r w' => ∃ b, r = tyv 3 0 0 false (.slice (some ⟨b, 0, none⟩) 1 1) E0 E0 false ∧ Has w' b (.cells (tyl k n c vr (.slice a l cp) E0 E0 false).toArray 26) ∧ w.heap.size ≤ b ∧ Ext w w') := by
  refine W.enter (args := [tyv k n c vr (.slice a l cp) nm tg em]) Tryz.func25 rfl Tryz.ntmps25 rfl rfl ?_
  refine zst ?_
  refine WU.stp rfl rfl rfl (by first | exact stp_box rfl rfl | exact stp_box1 rfl rfl) ?_
  rintro _ w1 ⟨b1, rfl, n1⟩
  refine WU.stp rfl rfl rfl stp_alloc ?_
  rintro _ w2 ⟨b2, rfl, n2⟩
  have hb := n1.num
  have hb2 := n2.num
  have hs := n1.size
  refine zst ?_
  refine WU.stp rfl rfl rfl (stp_call rfl (c_element k n c vr a l cp nm tg em w2)) ?_
  rintro _ w3 ⟨rfl, x3⟩
  refine WU.stp rfl rfl rfl (stp_buildSlice rfl rfl rfl rfl rfl) ?_
  rintro _ w4 ⟨b4, rfl, n4⟩
  refine WU.stp rfl rfl rfl (stp_call rfl (c_of 3 0 (some ⟨b4, 0, none⟩) 1 1 w4)) ?_
  rintro _ w5 ⟨rfl, x5⟩
  have h2 := n2.has.lt
  have s3 := x3.size
  have hb4 := n4.num
  refine WU.stp0 rfl rfl (stp_store_whole rfl rfl rfl rfl) ?_
  rintro _ w6 u6
  refine zst ?_
  exact finc (.inl rfl) rfl rfl ⟨b4, rfl, u6.keep inferInstance (by omega), by omega, u6.ext (n1.ext.trans (n2.ext.trans (x3.trans (n4.ext.trans x5)))) (by omega)⟩
theorem c_array (m k n c : Int) (vr : Bool) (a : Option Addr) (l cp : Nat) (nm tg : ByteArray) (em : Bool) (w : World) :
    Calls Tryz.prog 22 #[.int .i64 m, tyv k n c vr (.slice a l cp) nm tg em] w
      (Ret fun r w' => ∃ b, r = tyv 4 m 0 false (.slice (some ⟨b, 0, none⟩) 1 1) E0 E0 false ∧ Has w' b (.cells (tyl k n c vr (.slice a l cp) E0 E0 false).toArray 26) ∧ w.heap.size ≤ b ∧ Ext w w') := by
  refine W.enter (args := [.int .i64 m, tyv k n c vr (.slice a l cp) nm tg em]) Tryz.func22 rfl Tryz.ntmps22 rfl rfl ?_
  refine zst ?_
  refine WU.stp rfl rfl rfl (by first | exact stp_box rfl rfl | exact stp_box1 rfl rfl) ?_
  rintro _ w1 ⟨b1, rfl, n1⟩
  refine WU.stp rfl rfl rfl stp_alloc ?_
  rintro _ w2 ⟨b2, rfl, n2⟩
  have hb := n1.num
  have hb2 := n2.num
  have hs := n1.size
  refine zst ?_
  refine WU.stp rfl rfl rfl (stp_call rfl (c_element k n c vr a l cp nm tg em w2)) ?_
  rintro _ w3 ⟨rfl, x3⟩
  refine WU.stp rfl rfl rfl (stp_buildSlice rfl rfl rfl rfl rfl) ?_
  rintro _ w4 ⟨b4, rfl, n4⟩
  refine WU.stp rfl rfl rfl (stp_call rfl (c_of 4 m (some ⟨b4, 0, none⟩) 1 1 w4)) ?_
  rintro _ w5 ⟨rfl, x5⟩
  have h2 := n2.has.lt
  have s3 := x3.size
  have hb4 := n4.num
  refine WU.stp0 rfl rfl (stp_store_whole rfl rfl rfl rfl) ?_
  rintro _ w6 u6
  refine zst ?_
  exact finc (.inl rfl) rfl rfl ⟨b4, rfl, u6.keep inferInstance (by omega), by omega, u6.ext (n1.ext.trans (n2.ext.trans (x3.trans (n4.ext.trans x5)))) (by omega)⟩
theorem c_channel (m k n c : Int) (vr : Bool) (a : Option Addr) (l cp : Nat) (nm tg : ByteArray) (em : Bool) (w : World) :
    Calls Tryz.prog 24 #[.int .i64 m, tyv k n c vr (.slice a l cp) nm tg em] w
      (Ret fun r w' => ∃ b, r = tyv 6 m 0 false (.slice (some ⟨b, 0, none⟩) 1 1) E0 E0 false ∧ Has w' b (.cells (tyl k n c vr (.slice a l cp) E0 E0 false).toArray 26) ∧ w.heap.size ≤ b ∧ Ext w w') := by
  refine W.enter (args := [.int .i64 m, tyv k n c vr (.slice a l cp) nm tg em]) Tryz.func24 rfl Tryz.ntmps24 rfl rfl ?_
  refine zst ?_
  refine WU.stp rfl rfl rfl (by first | exact stp_box rfl rfl | exact stp_box1 rfl rfl) ?_
  rintro _ w1 ⟨b1, rfl, n1⟩
  refine WU.stp rfl rfl rfl stp_alloc ?_
  rintro _ w2 ⟨b2, rfl, n2⟩
  have hb := n1.num
  have hb2 := n2.num
  have hs := n1.size
  refine zst ?_
  refine WU.stp rfl rfl rfl (stp_call rfl (c_element k n c vr a l cp nm tg em w2)) ?_
  rintro _ w3 ⟨rfl, x3⟩
  refine WU.stp rfl rfl rfl (stp_buildSlice rfl rfl rfl rfl rfl) ?_
  rintro _ w4 ⟨b4, rfl, n4⟩
  refine WU.stp rfl rfl rfl (stp_call rfl (c_of 6 m (some ⟨b4, 0, none⟩) 1 1 w4)) ?_
  rintro _ w5 ⟨rfl, x5⟩
  have h2 := n2.has.lt
  have s3 := x3.size
  have hb4 := n4.num
  refine WU.stp0 rfl rfl (stp_store_whole rfl rfl rfl rfl) ?_
  rintro _ w6 u6
  refine zst ?_
  exact finc (.inl rfl) rfl rfl ⟨b4, rfl, u6.keep inferInstance (by omega), by omega, u6.ext (n1.ext.trans (n2.ext.trans (x3.trans (n4.ext.trans x5)))) (by omega)⟩
theorem c_mapping (k n c : Int) (vr : Bool) (a : Option Addr) (l cp : Nat) (nm tg : ByteArray) (em : Bool) (k' n' c' : Int) (vr' : Bool) (a' : Option Addr) (l' cp' : Nat) (nm' tg' : ByteArray) (em' : Bool) (w : World) :
    Calls Tryz.prog 26 #[tyv k n c vr (.slice a l cp) nm tg em, tyv k' n' c' vr' (.slice a' l' cp') nm' tg' em'] w
      (Ret fun r w' => ∃ b, r = tyv 5 0 0 false (.slice (some ⟨b, 0, none⟩) 2 2) E0 E0 false ∧
        Has w' b (.cells (tyl k n c vr (.slice a l cp) E0 E0 false ++ tyl k' n' c' vr' (.slice a' l' cp') E0 E0 false).toArray 26) ∧ w.heap.size ≤ b ∧ Ext w w') := by
  refine W.enter (args := [tyv k n c vr (.slice a l cp) nm tg em, tyv k' n' c' vr' (.slice a' l' cp') nm' tg' em']) Tryz.func26 rfl Tryz.ntmps26 rfl rfl ?_
  refine zst ?_
  refine WU.stp rfl rfl rfl (by first | exact stp_box rfl rfl | exact stp_box1 rfl rfl) ?_
  rintro _ w1 ⟨b1, rfl, n1⟩
  refine WU.stp rfl rfl rfl (by first | exact stp_box rfl rfl | exact stp_box1 rfl rfl) ?_
  rintro _ w2 ⟨b2, rfl, n2⟩
  refine WU.stp rfl rfl rfl stp_alloc ?_
  rintro _ w3 ⟨b3, rfl, n3⟩
  have hb1 := n1.num
  have hb2 := n2.num
  have hs2 := n1.size
  have hb3 := n3.num
  have hs3 := n2.size
  refine zst ?_
  refine W.regD [(0, .q), (2, .q), (1, .l), (3, .l), (4, .l), (5, .l), (6, .z)] (by kernel_rfl) (by kernel_rfl) rfl ?_
  intro w4 x4 _
  refine zsd ?_
  refine WD.stp rfl rfl rfl rfl (stp_call rfl (c_element k n c vr a l cp nm tg em w4)) ?_
  rintro _ w5 ⟨rfl, x5⟩
  refine ⟨by first | assumption | exact Ext.rfl' _ | infer_instance, ?_⟩
  refine WD.stp rfl rfl rfl rfl (stp_call rfl (c_element k' n' c' vr' a' l' cp' nm' tg' em' w5)) ?_
  rintro _ w6 ⟨rfl, x6⟩
  refine ⟨by first | assumption | exact Ext.rfl' _ | infer_instance, ?_⟩
  refine WD.stp rfl rfl rfl rfl (stp_buildSlice rfl rfl rfl rfl rfl) ?_
  rintro _ w7 ⟨b7, rfl, n7⟩
  refine ⟨n7.ext, ?_⟩
  refine WD.stp rfl rfl rfl rfl (stp_call rfl (c_of 5 0 (some ⟨b7, 0, none⟩) 2 2 w7)) ?_
  rintro _ w8 ⟨rfl, x8⟩
  refine ⟨by first | assumption | exact Ext.rfl' _ | infer_instance, ?_⟩
  have h3 := n3.has.lt
  have s4 := x4.size
  have s5 := x5.size
  have s6 := x6.size
  have hb7 := n7.num
  refine WD.last0 rfl rfl rfl (stp_store_whole rfl rfl rfl rfl) ?_
  rintro _ w9 u9
  refine zsd ?_
  refine zst ?_
  exact finc (.inl rfl) rfl rfl ⟨b7, rfl, u9.keep inferInstance (by omega), by omega, u9.ext (n1.ext.trans (n2.ext.trans (n3.ext.trans (x4.trans (x5.trans (x6.trans (n7.ext.trans x8))))))) (by omega)⟩


/-! ### .. as types -/
theorem tys_el {w : World} {t : Ty} {a : Option Addr} {c r : Nat} (hr : Has w r (.cells (tyc (elT t) a c).toArray 26)) {p : Nat → Prop} (hp : p r) (ht : TysV w p a c t.elems) : TysV w p (some ⟨r, 0, none⟩) 1 [elT t] := tys_one (t := elT t) hr hp ht
/-- the value of a type: what it reads -/
structure TvP (w : World) (p : Nat → Prop) (v : Value) (t : Ty) : Prop where
  ex : ∃ a c, v = .agg (tyc t a c).toArray ∧ TysV w p a c t.elems
abbrev TvV (w : World) (v : Value) (t : Ty) : Prop := TvP w (fun b => b < w.heap.size) v t
theorem TvP.mono {w : World} {p q : Nat → Prop} (hq : ∀ b, p b → q b) {v : Value} {t : Ty} (h : TvP w p v t) : TvP w q v t := by
  obtain ⟨a, c, h1, h2⟩ := h.ex
  exact ⟨a, c, h1, h2.mono hq⟩
theorem TvP.at_ {w w' : World} (x : Ext w w') {p : Nat → Prop} {v : Value} {t : Ty} (h : TvP w p v t) : TvP w' p v t := by
  obtain ⟨a, c, h1, h2⟩ := h.ex
  exact ⟨a, c, h1, h2.ext x⟩
theorem TvP.upd {w w' : World} {b : Nat} {ob : Obj} (u : Upd w b ob w') {p : Nat → Prop} (hb : ¬ p b) {v : Value} {t : Ty} (h : TvP w p v t) : TvP w' p v t := by
  obtain ⟨a, c, h1, h2⟩ := h.ex
  exact ⟨a, c, h1, h2.upd u hb⟩
theorem TvP.ext {w w' : World} (x : Ext w w') {v : Value} {t : Ty} (h : TvV w v t) : TvV w' v t := (h.at_ x).mono fun b hb => by have := x.size; omega
/-- the block of a type's elements -/
def blk (v : Value) (b : Nat) : Prop := ∃ l, v = .agg l ∧ ∃ o s n c, l[4]? = some (.slice (some ⟨b, o, s⟩) n c)
theorem blk_tyc {t : Ty} {o : Option Addr} {c b : Nat} (h : blk (.agg (tyc t o c).toArray) b) : ∃ q s, o = some ⟨b, q, s⟩ := by
  obtain ⟨l, e, q, s, n, k, h⟩ := h
  cases e
  simp at h
  exact ⟨q, s, h.1⟩
/-- a new value, made of old ones -/
abbrev Mk (w : World) (p : Nat → Prop) (t : Ty) (r : Value) (w' : World) : Prop := TvP w' (fun b => p b ∨ blk r b) r t ∧ (∀ b, blk r b → w.heap.size ≤ b ∧ b < w'.heap.size) ∧ Ext w w'
theorem toV {f : FuncId} {args : Array Value} {w : World} {t : Ty} (h : Calls Tryz.prog f args w (Ret (Mk w (fun b => b < w.heap.size) t))) : Calls Tryz.prog f args w (Ret fun r w' => TvV w' r t ∧ Ext w w') :=
  h.mono fun _ _ ⟨r, e, h1, h2, x⟩ => ⟨r, e, h1.mono fun b hb => by
    have := x.size
    rcases hb with hb | hb
    · omega
    · exact (h2 b hb).2, x⟩
theorem n_pointer {v : Value} {t : Ty} {w : World} {p : Nat → Prop} (h : TvP w p v t) : Calls Tryz.prog 23 #[v] w (Ret (Mk w p (ndT 2 0 [elT t]))) := by
  obtain ⟨a, c, rfl, ht⟩ := h.ex
  refine (c_pointer t.kind t.n t.count t.vr a t.elems.length c t.name t.tag t.emb w).mono fun e w' he => ?_
  obtain ⟨r, rfl, b, rfl, hb, hs, x⟩ := he
  exact ⟨_, rfl, ⟨_, _, rfl, tys_el (t := t) hb (.inr ⟨_, rfl, 0, none, 1, 1, rfl⟩) ((ht.ext x).mono fun b hb => .inl hb)⟩, fun d hd => by
    obtain ⟨q, s, e⟩ := blk_tyc (t := ndT 2 0 [elT t]) hd
    cases e
    exact ⟨hs, hb.lt⟩, x⟩
theorem t_pointer {v : Value} {t : Ty} {w : World} (h : TvV w v t) : Calls Tryz.prog 23 #[v] w (Ret fun r w' => TvV w' r (ndT 2 0 [elT t]) ∧ Ext w w') := toV (n_pointer h)
theorem n_slice {v : Value} {t : Ty} {w : World} {p : Nat → Prop} (h : TvP w p v t) : Calls Tryz.prog 25 #[v] w (Ret (Mk w p (ndT 3 0 [elT t]))) := by
  obtain ⟨a, c, rfl, ht⟩ := h.ex
  refine (c_slice t.kind t.n t.count t.vr a t.elems.length c t.name t.tag t.emb w).mono fun e w' he => ?_
  obtain ⟨r, rfl, b, rfl, hb, hs, x⟩ := he
  exact ⟨_, rfl, ⟨_, _, rfl, tys_el (t := t) hb (.inr ⟨_, rfl, 0, none, 1, 1, rfl⟩) ((ht.ext x).mono fun b hb => .inl hb)⟩, fun d hd => by
    obtain ⟨q, s, e⟩ := blk_tyc (t := ndT 3 0 [elT t]) hd
    cases e
    exact ⟨hs, hb.lt⟩, x⟩
theorem t_slice {v : Value} {t : Ty} {w : World} (h : TvV w v t) : Calls Tryz.prog 25 #[v] w (Ret fun r w' => TvV w' r (ndT 3 0 [elT t]) ∧ Ext w w') := toV (n_slice h)
theorem n_array (m : Int) {v : Value} {t : Ty} {w : World} {p : Nat → Prop} (h : TvP w p v t) : Calls Tryz.prog 22 #[.int .i64 m, v] w (Ret (Mk w p (ndT 4 m [elT t]))) := by
  obtain ⟨a, c, rfl, ht⟩ := h.ex
  refine (c_array m t.kind t.n t.count t.vr a t.elems.length c t.name t.tag t.emb w).mono fun e w' he => ?_
  obtain ⟨r, rfl, b, rfl, hb, hs, x⟩ := he
  exact ⟨_, rfl, ⟨_, _, rfl, tys_el (t := t) hb (.inr ⟨_, rfl, 0, none, 1, 1, rfl⟩) ((ht.ext x).mono fun b hb => .inl hb)⟩, fun d hd => by
    obtain ⟨q, s, e⟩ := blk_tyc (t := ndT 4 m [elT t]) hd
    cases e
    exact ⟨hs, hb.lt⟩, x⟩
theorem t_array (m : Int) {v : Value} {t : Ty} {w : World} (h : TvV w v t) : Calls Tryz.prog 22 #[.int .i64 m, v] w (Ret fun r w' => TvV w' r (ndT 4 m [elT t]) ∧ Ext w w') := toV (n_array m h)
theorem n_channel (m : Int) {v : Value} {t : Ty} {w : World} {p : Nat → Prop} (h : TvP w p v t) : Calls Tryz.prog 24 #[.int .i64 m, v] w (Ret (Mk w p (ndT 6 m [elT t]))) := by
  obtain ⟨a, c, rfl, ht⟩ := h.ex
  refine (c_channel m t.kind t.n t.count t.vr a t.elems.length c t.name t.tag t.emb w).mono fun e w' he => ?_
  obtain ⟨r, rfl, b, rfl, hb, hs, x⟩ := he
  exact ⟨_, rfl, ⟨_, _, rfl, tys_el (t := t) hb (.inr ⟨_, rfl, 0, none, 1, 1, rfl⟩) ((ht.ext x).mono fun b hb => .inl hb)⟩, fun d hd => by
    obtain ⟨q, s, e⟩ := blk_tyc (t := ndT 6 m [elT t]) hd
    cases e
    exact ⟨hs, hb.lt⟩, x⟩
theorem t_channel (m : Int) {v : Value} {t : Ty} {w : World} (h : TvV w v t) : Calls Tryz.prog 24 #[.int .i64 m, v] w (Ret fun r w' => TvV w' r (ndT 6 m [elT t]) ∧ Ext w w') := toV (n_channel m h)
theorem n_mapping {v u : Value} {k t : Ty} {w : World} {p : Nat → Prop} (h1 : TvP w p v k) (h : TvP w p u t) : Calls Tryz.prog 26 #[v, u] w (Ret (Mk w p (ndT 5 0 [elT k, elT t]))) := by
  obtain ⟨a1, c1, rfl, hk⟩ := h1.ex
  obtain ⟨a, c, rfl, ht⟩ := h.ex
  refine (c_mapping k.kind k.n k.count k.vr a1 k.elems.length c1 k.name k.tag k.emb t.kind t.n t.count t.vr a t.elems.length c t.name t.tag t.emb w).mono fun e w' he => ?_
  obtain ⟨r, rfl, b, rfl, hb, hs, x⟩ := he
  exact ⟨_, rfl, ⟨_, _, rfl, tys_two (t := elT k) (u := elT t) hb (.inr ⟨_, rfl, 0, none, 2, 2, rfl⟩) ((hk.ext x).mono fun b hb => .inl hb) ((ht.ext x).mono fun b hb => .inl hb)⟩, fun d hd => by
    obtain ⟨q, s, e⟩ := blk_tyc (t := ndT 5 0 [elT k, elT t]) hd
    cases e
    exact ⟨hs, hb.lt⟩, x⟩
theorem t_mapping {v u : Value} {k t : Ty} {w : World} (h1 : TvV w v k) (h : TvV w u t) : Calls Tryz.prog 26 #[v, u] w (Ret fun r w' => TvV w' r (ndT 5 0 [elT k, elT t]) ∧ Ext w w') := toV (n_mapping h1 h)
theorem t_basic (n : Int) (w : World) : Calls Tryz.prog 27 #[.int .i64 n] w (Ret fun r w' => TvV w' r (ndT 0 n []) ∧ Ext w w') := by
  refine (c_basic n w).mono fun e w' he => ?_
  obtain ⟨r, rfl, rfl, x⟩ := he
  exact ⟨_, rfl, ⟨none, 0, rfl, .nil⟩, x⟩
/-- a new variable for a type -/
abbrev zT : List Value := tyl 0 0 0 false (.slice none 0 0) E0 E0 false
def NewT (n0 : Nat) (v : Value) (w : World) : Prop := ∃ b, v = pt b ∧ Has w b (.cells zT.toArray 26) ∧ n0 ≤ b
def ptB (v : Value) (b : Nat) : Prop := v = pt b
theorem stp_newT {e : Env} {w0 w : World} {d : Option Tmp} {ty : TypeId} {pos : String} {aft : Array Edge} {g : Option (Nat × Bool)} (x0 : Ext w0 w) : Stp Tryz.prog e ⟨d, .alloc 26, ty, pos, aft, g⟩ w (fun v w' => Ext w w' ∧ NewT w0.heap.size v w' ∧ ∀ b, ptB v b → w.heap.size ≤ b) :=
  Stp.imp (stp_alloc (z := zT)) fun v w' ⟨b, h1, n⟩ => ⟨n.ext, ⟨b, h1, n.has, by have := n.num; have := x0.size; omega⟩, fun c hc => by
    have hc : v = pt c := hc
    rw [h1] at hc
    have := n.num
    simp at hc
    omega⟩
theorem NewT.okT {n0 : Nat} : (∀ v w1 w2, Ext w1 w2 → NewT n0 v w1 → NewT n0 v w2) ∧ ∀ v w1, NewT n0 v w1 → ∀ b, ptB v b → b < w1.heap.size :=
  ⟨fun v w1 w2 x ⟨b, h1, h2, h3⟩ => ⟨b, h1, h2.ext' x, h3⟩, fun v w1 ⟨b, h1, h2, _⟩ c hc => by
    have hc : v = pt c := hc
    rw [h1] at hc
    have := h2.lt
    simp at hc
    omega⟩
/-- a call that makes a type out of old ones, as a task -/
def MkT (n0 : Nat) (t : Ty) (v : Value) (w : World) : Prop := TvP w (fun b => b < n0 ∨ blk v b) v t ∧ ∀ b, blk v b → n0 ≤ b ∧ b < w.heap.size
theorem stp_mkT {e : Env} {w0 w : World} {d : Option Tmp} {ty : TypeId} {pos : String} {aft : Array Edge} {g : Option (Nat × Bool)} {k : FuncId} {args : List Operand} {tys : Array TypeId} {vs : List Value} {t : Ty} [h : Fun Tryz.prog k] (ha : evs e args = some vs) (hc : Calls Tryz.prog k vs.toArray w (Ret (Mk w (fun b => b < w0.heap.size) t))) (x0 : Ext w0 w) :
    Stp Tryz.prog e ⟨d, .call ⟨.value (.func k), args.toArray, tys⟩, ty, pos, aft, g⟩ w (fun v w' => Ext w w' ∧ MkT w0.heap.size t v w' ∧ ∀ b, blk v b → w.heap.size ≤ b) :=
  Stp.imp (stp_call ha hc) fun v w' ⟨h1, h2, x⟩ => ⟨x, ⟨h1, fun b hb => ⟨by have := (h2 b hb).1; have := x0.size; omega, (h2 b hb).2⟩⟩, fun b hb => (h2 b hb).1⟩
theorem MkT.okT {n0 : Nat} {t : Ty} : (∀ v w1 w2, Ext w1 w2 → MkT n0 t v w1 → MkT n0 t v w2) ∧ ∀ v w1, MkT n0 t v w1 → ∀ b, blk v b → b < w1.heap.size :=
  ⟨fun v w1 w2 x ⟨h1, h2⟩ => ⟨h1.at_ x, fun b hb => ⟨(h2 b hb).1, by have := (h2 b hb).2; have := x.size; omega⟩⟩, fun v w1 ⟨_, h2⟩ b hb => (h2 b hb).2⟩
/-- declarations in memory -/
structure LW (D : List De) (a : Option Addr) (cp : Nat) (w : World) : Prop where
  hp : Prp w
  hd : DsV w (fun b => b < w.heap.size) (.slice a D.length cp) D
theorem LW.ext {D : List De} {a : Option Addr} {cp : Nat} {w w' : World} (x : Ext w w') (h : LW D a cp w) : LW D a cp w' := ⟨h.hp.ext x, (h.hd.ext x).mono fun b hb => by have := x.size; omega⟩
theorem TvV.tys {w : World} {t : Ty} {a : Option Addr} {c : Nat} (h : TvV w (.agg (tyc t a c).toArray) t) : TysV w (fun b => b < w.heap.size) a c t.elems := by
  obtain ⟨a', c', e, h⟩ := h.ex
  simp only [Value.agg.injEq, Array.mk.injEq, List.cons.injEq, Value.slice.injEq, true_and, and_true] at e
  obtain ⟨rfl, rfl⟩ := e
  exact h
/-- a valid type with its tree; its weight is at most n -/
structure VX (D : List De) (n : Nat) (t : Ty) (x : X) : Prop where
  vt : ValidT D t
  wt : wt t ≤ n
  ex : Exp D t x
  wf : WfX x
theorem VX.of {D : List De} (hD : OkD D) (hV : ValidD D) {n : Nat} {t : Ty} {x : X} (h : ValidT D t) (hw : Go.Proofs.YtlemfkbhcleopaaGreatDoor.wt t ≤ n) (hn : n ≤ 16777216) (hx : Exp D t x) : VX D n t x := ⟨h, hw, hx, exp_wf hD hV hx (h.good (by omega)) h.lg⟩
theorem VX.ofT {D : List De} (hD : OkD D) (hV : ValidD D) {n : Nat} {t : Ty} (h : ValidT D t) (hw : Go.Proofs.YtlemfkbhcleopaaGreatDoor.wt t ≤ n) (hn : n ≤ 16777216) : ∃ x, VX D n t x := by
  obtain ⟨x, hx⟩ := (h.good (by omega)).exp hD
  exact ⟨x, .of hD hV h hw hn hx⟩
theorem VX.nd1 {D : List De} {n : Nat} {t : Ty} {x : X} (h : VX D n t x) {k m : Int} (hk : k = 2 ∨ k = 3 ∨ (k = 4 ∧ 0 ≤ m) ∨ (k = 6 ∧ 0 ≤ m ∧ m < 3)) : VX D (n + 1) (ndT k m [elT t]) (Go.Proofs.YtlemfkbhcleopaaGreatDoor.nd1 k m x) :=
  ⟨valid_nd1 hk h.vt, by have h1 := wt_elT t; have h2 := h.wt; rw [wt_nd]; simp only [wts]; omega, exp_nd1 (by omega) h.ex, wf_nd1 (by omega) h.wf⟩
theorem VX.map {D : List De} {n m : Nat} {k t : Ty} {x y : X} (hc : Cmp D k true) (h1 : VX D n k x) (h : VX D m t y) : VX D (n + m + 1) (ndT 5 0 [elT k, elT t]) (nd2 x y) :=
  ⟨valid_map h1.vt hc h.vt, by have h2 := wt_elT t; have h3 := wt_elT k; have h4 := h.wt; have h5 := h1.wt; rw [wt_nd]; simp only [wts]; omega, exp_map h1.ex h.ex, wf_nd2 h1.wf h.wf⟩
theorem VX.int (D : List De) : VX D 1 (ndT 0 1 []) (.leaf 0 1) := by
  have hu : unaliasT D (ndT 0 1 []) = ndT 0 1 [] := by rw [unalias_lit (isAl_lit (show (ndT 0 1 []).kind ≠ 1 from (by decide : (0 : Int) ≠ 1)))]; rfl
  have hk : (ndT 0 1 []).kind = 0 := rfl
  have hel : (ndT 0 1 []).elems = [] := rfl
  have hx := Exp.leaf (D := D) (ndT 0 1 []) (by rw [hu]; exact .inl rfl)
  rw [hu] at hx
  refine ⟨⟨.mk _ _ ⟨by omega, by omega, fun _ => rfl, fun _ => (by decide : (0 : Int) ≤ 1), fun _ => ?_, fun _ => by omega, fun _ => by omega, fun _ => by omega, fun _ => by omega, fun _ => by omega⟩ fun j e he => by rw [hel] at he; simp at he, .mk _ (fun j e he => by rw [hel] at he; simp at he) ⟨fun _ => by omega, fun _ => by omega, fun _ => by omega, fun _ => by omega, fun _ => by omega, fun _ => by omega, fun _ => by omega, fun _ => by omega⟩⟩, by decide, hx, .leaf _ _⟩
  rw [hk, show limitN D 0 = 22 by simp [limitN]]
  exact (by decide : (1 : Int) < 22)
theorem cmp_int (D : List De) : Cmp D (ndT 0 1 []) true := .yes _ (.inl (by rw [under_lit (show (ndT 0 1 []).kind ≠ 1 from (by decide : (0 : Int) ≠ 1)) (by decide)]; rfl))
/-- spec.Valid of one type, of two -/
theorem t_Valid1 {D : List De} {a : Option Addr} {cp : Nat} {w : World} (lw : LW D a cp w) (hwd : wtD D ≤ 1048576) {t : Ty} {v : Value} {a1 : Option Addr} {c1 r : Nat} (hr : Has w r (.cells (tyc t a1 c1).toArray 26)) (hv : v = .agg (tyc t a1 c1).toArray) (T : TvV w v t) (hw : wt t ≤ 16777216) :
    Calls Tryz.prog 12 #[.slice a D.length cp, .slice (some ⟨r, 0, none⟩) 1 1] w (Ret fun q w' => ∃ b, q = .bool b ∧ (b = true → ValidD D ∧ ValidT D t) ∧ Ext w w') := by
  subst hv
  refine (c_Valid (l := [t]) (by omega) (by have := len_wtD D; omega) (by simpa using hw) (by simp) a cp (some ⟨r, 0, none⟩) 1 w (fun b => b < w.heap.size) (fun b hb => hb) lw.hd (tys_one hr hr.lt T.tys)).mono fun e w' ⟨q, he, b, e1, h, x⟩ => ⟨q, he, b, e1, fun hb => ?_, x⟩
  obtain ⟨h1, h2⟩ := h hb
  exact ⟨h1, h2 t (by simp)⟩
theorem t_Valid2 {D : List De} {a : Option Addr} {cp : Nat} {w : World} (lw : LW D a cp w) (hwd : wtD D ≤ 1048576) {t u : Ty} {v v' : Value} {a1 a2 : Option Addr} {c1 c2 r : Nat} (hr : Has w r (.cells (tyc t a1 c1 ++ tyc u a2 c2).toArray 26)) (hv : v = .agg (tyc t a1 c1).toArray) (hv' : v' = .agg (tyc u a2 c2).toArray) (T : TvV w v t) (T' : TvV w v' u) (hw : wt t ≤ 16777216) (hw' : wt u ≤ 16777216) :
    Calls Tryz.prog 12 #[.slice a D.length cp, .slice (some ⟨r, 0, none⟩) 2 2] w (Ret fun q w' => ∃ b, q = .bool b ∧ (b = true → ValidD D ∧ ValidT D t ∧ ValidT D u) ∧ Ext w w') := by
  subst hv hv'
  refine (c_Valid (l := [t, u]) (by omega) (by have := len_wtD D; omega) (by simpa using ⟨hw, hw'⟩) (by simp) a cp (some ⟨r, 0, none⟩) 2 w (fun b => b < w.heap.size) (fun b hb => hb) lw.hd (tys_two hr hr.lt T.tys T'.tys)).mono fun e w' ⟨q, he, b, e1, h, x⟩ => ⟨q, he, b, e1, fun hb => ?_, x⟩
  obtain ⟨h1, h2⟩ := h hb
  exact ⟨h1, h2 t (by simp), h2 u (by simp)⟩
/-- impl.Identical of two types -/
theorem t_Id {D : List De} {t u : Ty} {x y : X} {a : Option Addr} {cp n m : Nat} {v1 v2 : Value} {w : World} (lw : LW D a cp w) (hV : ValidD D) (hwd : wtD D ≤ 1048576) (h1 : TvV w v1 t) (h2 : TvV w v2 u) (g1 : VX D n t x) (g2 : VX D m u y) (hn : n ≤ 16777216) (hm : m ≤ 16777216) :
    Calls Tryz.prog 15 #[.slice a D.length cp, v1, v2] w (Ret fun r w' => r = .bool (idX true x y) ∧ Ext w w') := by
  obtain ⟨a1, c1, rfl, ht⟩ := h1.ex
  obtain ⟨a2, c2, rfl, hu⟩ := h2.ex
  exact (c_iIdentical lw.hp hV g1.vt g2.vt (by omega) (Nat.le_trans g1.wt hn) (Nat.le_trans g2.wt hm) g1.ex g2.ex lw.hd ht hu).mono fun e w' ⟨r, he, h, _, _, x⟩ => ⟨r, he, h, x⟩
theorem okD {D : List De} (hV : ValidD D) (hwd : wtD D ≤ 1048576) : OkD D := ⟨hV.sh, by omega, by have := len_wtD D; omega⟩
end Go.Proofs.YtlemfkbhcleopaaGreatDoor.Law
namespace Go.Proofs.YtlemfkbhcleopaaGreatDoor
open Go Go.Kd
set_option maxRecDepth 100000

theorem c_gIdenticalT {K : Cfg} {s : Gs} {w : World} {vx vy : Value} {tx ty : Ty} {x y : X} (ic : IC K s w) (hx : TX K s w vx tx x) (hy : TX K s w vy ty y) : Calls Tryz.prog 39 #[vx, vy] w (Ret fun r w' => r = .bool (idX false x y) ∧ Ext w w') := by
  refine W.enter (args := [vx, vy]) Tryz.func39 rfl Tryz.ntmps39 rfl rfl ?_
  refine zst ?_
  refine WU.stp rfl rfl rfl stp_alloc ?_
  rintro _ w1 ⟨cb, rfl, n1⟩
  refine zst ?_
  refine WU.stp0 rfl rfl (stp_store_cell rfl rfl rfl rfl) ?_
  rintro _ w2 u2
  have hcb : Has w2 cb (.cells (cmc true) tCM) := u2.has
  have x2 : Ext w w2 := u2.ext n1.ext (Nat.le_of_eq n1.num.symm)
  refine zst ?_
  refine WU.stp rfl rfl rfl (stp_call rfl (c_identical (K := K) (s := s) (cb := cb) (ign := true) _ x (Nat.lt_succ_self _) w2 vx vy tx ty y none (ic.ext x2) hcb (hx.ext x2) (hy.ext x2) (.nil _ _))) ?_
  rintro _ w3 ⟨rfl, x3⟩
  refine zst ?_
  exact fin1 (.inl rfl) rfl rfl ⟨rfl, x2.trans x3⟩
set_option maxHeartbeats 2000000 in
theorem c_iIdenticalT {D : List De} {t u : Ty} {x y : X} {a : Option Addr} {cp : Nat} {a1 a2 : Option Addr} {c1 c2 : Nat} {w : World} (hp : Prp w) (hV : ValidD D) (hT : ValidT D t) (hU : ValidT D u) (hwd : wtD D ≤ 16777216) (hwt : wt t ≤ 16777216) (hwu : wt u ≤ 16777216) (hx : Exp D t x) (hy : Exp D u y)
    (hd : DsV w (fun b => b < w.heap.size) (.slice a D.length cp) D) (ht : TysV w (fun b => b < w.heap.size) a1 c1 t.elems) (hu : TysV w (fun b => b < w.heap.size) a2 c2 u.elems) :
    Calls Tryz.prog 13 #[.slice a D.length cp, .agg (tyc t a1 c1).toArray, .agg (tyc u a2 c2).toArray] w (Ret fun r w' => r = .bool (idX false x y) ∧ WfX x ∧ WfX y ∧ Ext w w') := by
  refine W.enter (args := [.slice a D.length cp, .agg (tyc t a1 c1).toArray, .agg (tyc u a2 c2).toArray]) Tryz.func13 rfl Tryz.ntmps13 rfl rfl ?_
  refine zst ?_
  refine WU.stp rfl rfl rfl (by first | exact stp_box rfl rfl | exact stp_box1 rfl rfl) ?_
  rintro _ w1 ⟨b4, rfl, n1⟩
  refine zst ?_
  have ib4 : Has w1 b4 (.cells (tyc t a1 c1).toArray 26) := n1.has
  refine WU.stp rfl rfl rfl (by first | exact stp_box rfl rfl | exact stp_box1 rfl rfl) ?_
  rintro _ w2 ⟨b5, rfl, n2⟩
  have ib5 : Has w2 b5 (.cells (tyc u a2 c2).toArray 26) := n2.has
  have x02 := n1.ext.trans n2.ext
  have z02 := x02.size
  have jb4 := ib4.ext' n2.ext
  refine zst ?_
  refine WU.stp rfl rfl rfl (stp_call rfl (c_build' (hp.ext x02) hV hwd (hd.ext x02) fun b hb => by omega)) ?_
  rintro _ w3 ⟨K, s, bb, rfl, rfl, hKN, x3, hB⟩
  have z3 := x3.size
  refine zst ?_
  obtain ⟨F, hFd⟩ : ∃ F : World → Prop, ∀ W, F W ↔ (Has W b4 (.cells (tyc t a1 c1).toArray 26) ∧ Has W b5 (.cells (tyc u a2 c2).toArray 26)) := ⟨fun W => (Has W b4 (.cells (tyc t a1 c1).toArray 26) ∧ Has W b5 (.cells (tyc u a2 c2).toArray 26)), fun _ => Iff.rfl⟩
  refine W.regR (R := fun a b => F a → F b) (fun _ h => h) (fun _ _ _ h k x => k (h x)) [(0, .q), (1, .q), (3, .q), (4, .q), (2, .l), (5, .l), (6, .l), (7, .q)] (by kernel_rfl) (by kernel_rfl) rfl ?_
  intro w4 x4 _
  have x24 := x3.trans x4
  have hF : F w4 := (hFd _).2 ⟨jb4.ext' x24, ib5.ext' x24⟩
  have hB4 := hB.ext x4
  have z4 := x4.size
  (repeat (first
      | refine WR.nilk ?_
      | refine WR.nil ?_
      | refine WR.yld (fun _ h => h) rfl rfl rfl rfl (fun w' hx => by obtain ⟨i1, i2⟩ := (hFd _).1 (hx hF); first | exact zyl | (exact by first | exact yld_load_cells rfl (Cells.has i1) | exact yld_load_cells rfl (Cells.has i2)) | exact yld_indexAddr_arr rfl rfl (by omega)) ?_
      | refine WR.skip rfl rfl rfl rfl ?_))
  refine WR.stp rfl rfl rfl rfl (stp_call rfl (c_of hB4 (p := fun b => b < w.heap.size) (cs := tyc t a1 c1) (t := t) ((TyV.of_tys ht).ext (x02.trans x24)) (fun b hb => ⟨by omega, by omega⟩) ⟨true, hT.sh⟩ hT.lg (by show _ ≤ 268435456; omega))) ?_
  rintro _ w5 ⟨s5, hg5, st5, hB5, rt5, T5, rb5, rfl⟩
  have hF : F w5 := (hFd _).2 ⟨Has.sta st5 ((hFd _).1 hF).1, Has.sta st5 ((hFd _).1 hF).2⟩
  refine ⟨fun _ => hF, ?_⟩
  (repeat (first
      | refine WR.nilk ?_
      | refine WR.nil ?_
      | refine WR.yld (fun _ h => h) rfl rfl rfl rfl (fun w' hx => by obtain ⟨i1, i2⟩ := (hFd _).1 (hx hF); first | exact zyl | (exact by first | exact yld_load_cells rfl (Cells.has i1) | exact yld_load_cells rfl (Cells.has i2)) | exact yld_indexAddr_arr rfl rfl (by omega)) ?_
      | refine WR.skip rfl rfl rfl rfl ?_))
  have x25 : Ext w2 w5 := ext_sta x24 (by omega) st5
  have z5 := x25.size
  refine WR.stp rfl rfl rfl rfl (stp_call rfl (c_of hB5 (p := fun b => b < w.heap.size) (cs := tyc u a2 c2) (t := u) ((TyV.of_tys hu).ext (x02.trans x25)) (fun b hb => ⟨by omega, by omega⟩) ⟨true, hU.sh⟩ hU.lg (by show _ ≤ 268435456; omega))) ?_
  rintro _ w6 ⟨s6, hg6, st6, hB6, rt6, T6, rb6, rfl⟩
  have hF : F w6 := (hFd _).2 ⟨Has.sta st6 ((hFd _).1 hF).1, Has.sta st6 ((hFd _).1 hF).2⟩
  refine ⟨fun _ => hF, ?_⟩
  (repeat (first
      | refine WR.nilk ?_
      | refine WR.nil ?_
      | refine WR.yld (fun _ h => h) rfl rfl rfl rfl (fun w' hx => by obtain ⟨i1, i2⟩ := (hFd _).1 (hx hF); first | exact zyl | (exact by first | exact yld_load_cells rfl (Cells.has i1) | exact yld_load_cells rfl (Cells.has i2)) | exact yld_indexAddr_arr rfl rfl (by omega)) ?_
      | refine WR.skip rfl rfl rfl rfl ?_))
  have rt5' := RT.gle hg6 (rt5.sta st6 (by omega))
  have x26 : Ext w2 w6 := ext_sta x25 (by omega) st6
  have tx1 := TX.of hB6.ic rt5' ⟨⟨_, _, Nat.le_refl _, hT.sh⟩, hwt⟩ hT.lg hx
  have tx2 := TX.of hB6.ic rt6 ⟨⟨_, _, Nat.le_refl _, hU.sh⟩, hwu⟩ hU.lg hy
  refine WR.stp rfl rfl rfl rfl (stp_call rfl (c_gIdenticalT hB6.ic tx1 tx2)) ?_
  rintro _ w7 ⟨rfl, x7⟩
  have hF : F w7 := (hFd _).2 ⟨((hFd _).1 hF).1.ext' x7, ((hFd _).1 hF).2.ext' x7⟩
  refine ⟨fun _ => hF, ?_⟩
  (repeat (first
      | refine WR.nilk ?_
      | refine WR.nil ?_
      | refine WR.yld (fun _ h => h) rfl rfl rfl rfl (fun w' hx => by obtain ⟨i1, i2⟩ := (hFd _).1 (hx hF); first | exact zyl | (exact by first | exact yld_load_cells rfl (Cells.has i1) | exact yld_load_cells rfl (Cells.has i2)) | exact yld_indexAddr_arr rfl rfl (by omega)) ?_
      | refine WR.skip rfl rfl rfl rfl ?_))
  refine zst ?_
  exact fin1 (.inl rfl) rfl rfl ⟨rfl, tx1.rt.wfx hB6.ic x _ _ tx1.rd tx1.gd hx, tx2.rt.wfx hB6.ic y _ _ tx2.rd tx2.gd hy, (x02.trans x26).trans x7⟩
end Go.Proofs.YtlemfkbhcleopaaGreatDoor
namespace Go.Proofs.YtlemfkbhcleopaaGreatDoor.Law
open Go Go.Kd
/-- impl.IdenticalIgnoreTags of two types -/
theorem t_IdT {D : List De} {t u : Ty} {x y : X} {a : Option Addr} {cp n m : Nat} {v1 v2 : Value} {w : World} (lw : LW D a cp w) (hV : ValidD D) (hwd : wtD D ≤ 1048576) (h1 : TvV w v1 t) (h2 : TvV w v2 u) (g1 : VX D n t x) (g2 : VX D m u y) (hn : n ≤ 16777216) (hm : m ≤ 16777216) :
    Calls Tryz.prog 13 #[.slice a D.length cp, v1, v2] w (Ret fun r w' => r = .bool (idX false x y) ∧ Ext w w') := by
  obtain ⟨a1, c1, rfl, ht⟩ := h1.ex
  obtain ⟨a2, c2, rfl, hu⟩ := h2.ex
  exact (c_iIdenticalT lw.hp hV g1.vt g2.vt (by omega) (Nat.le_trans g1.wt hn) (Nat.le_trans g2.wt hm) g1.ex g2.ex lw.hd ht hu).mono fun e w' ⟨r, he, h, _, _, x⟩ => ⟨r, he, h, x⟩
/-- spec.Valid of three types -/
theorem tys_three {w : World} {t u s : Ty} {a a' a'' : Option Addr} {c c' c'' r : Nat} (hr : Has w r (.cells (tyc t a c ++ tyc u a' c' ++ tyc s a'' c'').toArray 26)) {p : Nat → Prop} (hp : p r) (ht : TysV w p a c t.elems) (hu : TysV w p a' c' u.elems) (hs : TysV w p a'' c'' s.elems) : TysV w p (some ⟨r, 0, none⟩) 3 [t, u, s] :=
  ⟨Nat.le_refl _, fun i => if i = 0 then tyc t a c else if i = 1 then tyc u a' c' else tyc s a'' c'', fun i hi => ⟨r, 0, rfl, hp, by
    have hi : i < 3 := hi
    have hc := Cells.has hr
    rcases (show i = 0 ∨ i = 1 ∨ i = 2 by omega) with rfl | rfl | rfl
    · exact hc.part (k := 0 * 8) fun j v hv => by
        have hv : (tyc t a c)[j]? = some v := hv
        simp only [Nat.zero_mul, Nat.zero_add]
        rw [List.append_assoc, List.getElem?_append_left ((List.getElem?_eq_some_iff.1 hv).1)]
        exact hv
    · exact hc.part (k := 1 * 8) fun j v hv => by
        have hv : (tyc u a' c')[j]? = some v := hv
        have hj := (List.getElem?_eq_some_iff.1 hv).1
        rw [List.append_assoc, List.getElem?_append_right (by simp), List.getElem?_append_left (by simpa using hj)]
        simpa using hv
    · exact hc.part (k := 2 * 8) fun j v hv => by
        have hv : (tyc s a'' c'')[j]? = some v := hv
        rw [List.getElem?_append_right (by simp)]
        simpa using hv⟩, fun i e he => by
    match i with
    | 0 => simp at he; subst he; exact .of_tys ht
    | 1 => simp at he; subst he; exact .of_tys hu
    | 2 => simp at he; subst he; exact .of_tys hs
    | i + 3 => simp at he⟩
theorem t_Valid3 {D : List De} {a : Option Addr} {cp : Nat} {w : World} (lw : LW D a cp w) (hwd : wtD D ≤ 1048576) {t u s : Ty} {v v' v'' : Value} {a1 a2 a3 : Option Addr} {c1 c2 c3 r : Nat} (hr : Has w r (.cells (tyc t a1 c1 ++ tyc u a2 c2 ++ tyc s a3 c3).toArray 26)) (hv : v = .agg (tyc t a1 c1).toArray) (hv' : v' = .agg (tyc u a2 c2).toArray) (hv'' : v'' = .agg (tyc s a3 c3).toArray) (T : TvV w v t) (T' : TvV w v' u) (T'' : TvV w v'' s) (hw : wt t ≤ 16777216) (hw' : wt u ≤ 16777216) (hw'' : wt s ≤ 16777216) :
    Calls Tryz.prog 12 #[.slice a D.length cp, .slice (some ⟨r, 0, none⟩) 3 3] w (Ret fun q w' => ∃ b, q = .bool b ∧ (b = true → ValidD D ∧ ValidT D t ∧ ValidT D u ∧ ValidT D s) ∧ Ext w w') := by
  subst hv hv' hv''
  refine (c_Valid (l := [t, u, s]) (by omega) (by have := len_wtD D; omega) (by simpa using ⟨hw, hw', hw''⟩) (by simp) a cp (some ⟨r, 0, none⟩) 3 w (fun b => b < w.heap.size) (fun b hb => hb) lw.hd (tys_three hr hr.lt T.tys T'.tys T''.tys)).mono fun e w' ⟨q, he, b, e1, h, x⟩ => ⟨q, he, b, e1, fun hb => ?_, x⟩
  obtain ⟨h1, h2⟩ := h hb
  exact ⟨h1, h2 t (by simp), h2 u (by simp), h2 s (by simp)⟩
end Go.Proofs.YtlemfkbhcleopaaGreatDoor.Law
namespace Go.Proofs.YtlemfkbhcleopaaGreatDoor.Law
open Go Go.Kd
set_option maxRecDepth 100000

set_option maxHeartbeats 2000000 in
theorem c_FnTransitive {D : List De} {a : Option Addr} {cp : Nat} {t1 : Ty} {a1 : Option Addr} {c1 : Nat} {t2 : Ty} {a2 : Option Addr} {c2 : Nat} {t3 : Ty} {a3 : Option Addr} {c3 : Nat} {w : World} (hp : Prp w) (hwd : wtD D ≤ 1048576) (hw1 : wt t1 ≤ 1048576) (hw2 : wt t2 ≤ 1048576) (hw3 : wt t3 ≤ 1048576) (hd : DsV w (fun b => b < w.heap.size) (.slice a D.length cp) D) (ht1 : TysV w (fun b => b < w.heap.size) a1 c1 t1.elems) (ht2 : TysV w (fun b => b < w.heap.size) a2 c2 t2.elems) (ht3 : TysV w (fun b => b < w.heap.size) a3 c3 t3.elems) :
    Calls Tryz.prog 6 #[.slice a D.length cp, .agg (tyc t1 a1 c1).toArray, .agg (tyc t2 a2 c2).toArray, .agg (tyc t3 a3 c3).toArray] w (Ret fun r w' => r = .bool true ∧ Ext w w') := by
  have hDl : D.length ≤ 16777216 := by have := len_wtD D; omega
  have lw : LW D a cp w := ⟨hp, hd⟩
  have T1 : TvV w (.agg (tyc t1 a1 c1).toArray) t1 := ⟨⟨_, _, rfl, ht1⟩⟩
  have T2 : TvV w (.agg (tyc t2 a2 c2).toArray) t2 := ⟨⟨_, _, rfl, ht2⟩⟩
  have T3 : TvV w (.agg (tyc t3 a3 c3).toArray) t3 := ⟨⟨_, _, rfl, ht3⟩⟩
  have x0 : Ext w w := Ext.rfl' w
  refine W.enter (args := [.slice a D.length cp, .agg (tyc t1 a1 c1).toArray, .agg (tyc t2 a2 c2).toArray, .agg (tyc t3 a3 c3).toArray]) Tryz.func6 rfl Tryz.ntmps6 rfl rfl ?_
  refine zst ?_
  refine WU.stp rfl rfl rfl (by first | exact stp_box rfl rfl | exact stp_box1 rfl rfl) ?_
  rintro _ w1 ⟨b1, rfl, n1⟩
  replace lw := lw.ext n1.ext
  replace T1 := T1.ext n1.ext
  replace T2 := T2.ext n1.ext
  replace T3 := T3.ext n1.ext
  replace x0 := x0.trans n1.ext
  have ib1 : Has w1 b1 (.cells (tyc t1 a1 c1).toArray 26) := n1.has
  refine zst ?_
  refine WU.stp rfl rfl rfl (by first | exact stp_box rfl rfl | exact stp_box1 rfl rfl) ?_
  rintro _ w2 ⟨b2, rfl, n2⟩
  replace lw := lw.ext n2.ext
  replace T1 := T1.ext n2.ext
  replace T2 := T2.ext n2.ext
  replace T3 := T3.ext n2.ext
  replace ib1 := ib1.ext' n2.ext
  replace x0 := x0.trans n2.ext
  have ib2 : Has w2 b2 (.cells (tyc t2 a2 c2).toArray 26) := n2.has
  refine zst ?_
  refine WU.stp rfl rfl rfl (by first | exact stp_box rfl rfl | exact stp_box1 rfl rfl) ?_
  rintro _ w3 ⟨b3, rfl, n3⟩
  replace lw := lw.ext n3.ext
  replace T1 := T1.ext n3.ext
  replace T2 := T2.ext n3.ext
  replace T3 := T3.ext n3.ext
  replace ib1 := ib1.ext' n3.ext
  replace ib2 := ib2.ext' n3.ext
  replace x0 := x0.trans n3.ext
  have ib3 : Has w3 b3 (.cells (tyc t3 a3 c3).toArray 26) := n3.has
  refine zst ?_
  rw [show decide ((2147483647 : Int) < (D.length : Int)) = false by simp; omega]
  refine zst ?_
  refine WU.stp rfl rfl rfl (stp_call rfl (c_zzFits1 t1 a1 c1 _ (by omega))) ?_
  rintro _ w4 ⟨rfl, x4⟩
  replace lw := lw.ext x4
  replace T1 := T1.ext x4
  replace T2 := T2.ext x4
  replace T3 := T3.ext x4
  replace ib1 := ib1.ext' x4
  replace ib2 := ib2.ext' x4
  replace ib3 := ib3.ext' x4
  replace x0 := x0.trans x4
  refine zst ?_
  refine WU.stp rfl rfl rfl (stp_call rfl (c_zzFits1 t2 a2 c2 _ (by omega))) ?_
  rintro _ w5 ⟨rfl, x5⟩
  replace lw := lw.ext x5
  replace T1 := T1.ext x5
  replace T2 := T2.ext x5
  replace T3 := T3.ext x5
  replace ib1 := ib1.ext' x5
  replace ib2 := ib2.ext' x5
  replace ib3 := ib3.ext' x5
  replace x0 := x0.trans x5
  refine zst ?_
  refine WU.stp rfl rfl rfl (stp_call rfl (c_zzFits1 t3 a3 c3 _ (by omega))) ?_
  rintro _ w6 ⟨rfl, x6⟩
  replace lw := lw.ext x6
  replace T1 := T1.ext x6
  replace T2 := T2.ext x6
  replace T3 := T3.ext x6
  replace ib1 := ib1.ext' x6
  replace ib2 := ib2.ext' x6
  replace ib3 := ib3.ext' x6
  replace x0 := x0.trans x6
  refine zst ?_
  refine WU.stp rfl rfl rfl (stp_buildSlice rfl rfl rfl rfl rfl) ?_
  rintro _ w7 ⟨r7, rfl, n7⟩
  replace lw := lw.ext n7.ext
  replace T1 := T1.ext n7.ext
  replace T2 := T2.ext n7.ext
  replace T3 := T3.ext n7.ext
  replace ib1 := ib1.ext' n7.ext
  replace ib2 := ib2.ext' n7.ext
  replace ib3 := ib3.ext' n7.ext
  replace x0 := x0.trans n7.ext
  have hr : Has w7 r7 (.cells (tyc t1 a1 c1 ++ tyc t2 a2 c2 ++ tyc t3 a3 c3).toArray 26) := n7.has
  refine zst ?_
  refine WU.stp rfl rfl rfl (stp_call rfl (t_Valid3 lw hwd hr rfl rfl rfl T1 T2 T3 (by omega) (by omega) (by omega))) ?_
  rintro _ w8 ⟨v, rfl, hv, x8⟩
  replace lw := lw.ext x8
  replace T1 := T1.ext x8
  replace T2 := T2.ext x8
  replace T3 := T3.ext x8
  replace ib1 := ib1.ext' x8
  replace ib2 := ib2.ext' x8
  replace ib3 := ib3.ext' x8
  replace x0 := x0.trans x8
  cases v with
  | false =>
    refine zst ?_
    exact fin1 (.inl rfl) rfl rfl ⟨rfl, x0⟩
  | true =>
    obtain ⟨hV, h1, h2, h3⟩ := hv rfl
    have hok := okD hV hwd
    obtain ⟨x, V1⟩ := VX.ofT hok hV (n := 1048576) h1 hw1 (by decide)
    obtain ⟨y, V2⟩ := VX.ofT hok hV (n := 1048576) h2 hw2 (by decide)
    obtain ⟨z, V3⟩ := VX.ofT hok hV (n := 1048576) h3 hw3 (by decide)
    (repeat ((fail_if_success guard_target =~ gW (.seq (.region 5 _ _) _)); (fail_if_success guard_target =~ gW (.seq (.seq (.region 5 _ _) _) _)); refine zs1 ?_))
    refine W.cutI [(0, .slice a D.length cp), (5, pt b1), (6, pt b2), (7, pt b3), (8, .bool false), (9, .bool true)] (fun w1 => Ext w8 w1) ?_ ?_
    · have xs := Ext.rfl' w8
      refine zst ?_
      refine WU.stp rfl rfl rfl (stp_call rfl (t_Id lw hV hwd T1 T2 V1 V2 (by decide) (by decide))) ?_
      rintro _ w9 ⟨rfl, x9⟩
      replace lw := lw.ext x9
      replace T1 := T1.ext x9
      replace T2 := T2.ext x9
      replace T3 := T3.ext x9
      replace ib1 := ib1.ext' x9
      replace ib2 := ib2.ext' x9
      replace ib3 := ib3.ext' x9
      replace xs := xs.trans x9
      replace x0 := x0.trans x9
      refine zst ?_
      cases e1 : idX true x y
      · refine zst ?_
        exact ⟨rfl, xs, rfl, rfl, rfl, rfl, rfl, rfl, trivial⟩
      · refine zst ?_
        refine WU.stp rfl rfl rfl (stp_call rfl (t_Id lw hV hwd T2 T3 V2 V3 (by decide) (by decide))) ?_
        rintro _ w10 ⟨rfl, x10⟩
        replace lw := lw.ext x10
        replace T1 := T1.ext x10
        replace T2 := T2.ext x10
        replace T3 := T3.ext x10
        replace ib1 := ib1.ext' x10
        replace ib2 := ib2.ext' x10
        replace ib3 := ib3.ext' x10
        replace xs := xs.trans x10
        replace x0 := x0.trans x10
        refine zst ?_
        cases e2 : idX true y z
        · refine zst ?_
          exact ⟨rfl, xs, rfl, rfl, rfl, rfl, rfl, rfl, trivial⟩
        · refine zst ?_
          refine WU.stp rfl rfl rfl (stp_call rfl (t_Id lw hV hwd T1 T3 V1 V3 (by decide) (by decide))) ?_
          rintro _ w11 ⟨rfl, x11⟩
          replace lw := lw.ext x11
          replace T1 := T1.ext x11
          replace T2 := T2.ext x11
          replace T3 := T3.ext x11
          replace ib1 := ib1.ext' x11
          replace ib2 := ib2.ext' x11
          replace ib3 := ib3.ext' x11
          replace xs := xs.trans x11
          replace x0 := x0.trans x11
          refine zst ?_
          rw [idX_trans true x V1.wf y V2.wf z V3.wf e1 e2]
          refine zst ?_
          exact ⟨rfl, xs, rfl, rfl, rfl, rfl, rfl, rfl, trivial⟩
    intro w12 x12
    replace lw := lw.ext x12
    replace T1 := T1.ext x12
    replace T2 := T2.ext x12
    replace T3 := T3.ext x12
    replace ib1 := ib1.ext' x12
    replace ib2 := ib2.ext' x12
    replace ib3 := ib3.ext' x12
    replace x0 := x0.trans x12
    (repeat ((fail_if_success guard_target =~ gW (.seq (.region 6 _ _) _)); (fail_if_success guard_target =~ gW (.seq (.seq (.region 6 _ _) _) _)); refine zs1 ?_))
    refine W.cutI [(0, .slice a D.length cp), (5, pt b1), (6, pt b2), (7, pt b3), (8, .bool false), (9, .bool true), (10, .bool true)] (fun w1 => Ext w12 w1) ?_ ?_
    · have xs := Ext.rfl' w12
      refine zst ?_
      refine WU.stp rfl rfl rfl (stp_call rfl (t_IdT lw hV hwd T1 T2 V1 V2 (by decide) (by decide))) ?_
      rintro _ w13 ⟨rfl, x13⟩
      replace lw := lw.ext x13
      replace T1 := T1.ext x13
      replace T2 := T2.ext x13
      replace T3 := T3.ext x13
      replace ib1 := ib1.ext' x13
      replace ib2 := ib2.ext' x13
      replace ib3 := ib3.ext' x13
      replace xs := xs.trans x13
      replace x0 := x0.trans x13
      refine zst ?_
      cases e1 : idX false x y
      · refine zst ?_
        exact ⟨rfl, xs, rfl, rfl, rfl, rfl, rfl, rfl, rfl, trivial⟩
      · refine zst ?_
        refine WU.stp rfl rfl rfl (stp_call rfl (t_IdT lw hV hwd T2 T3 V2 V3 (by decide) (by decide))) ?_
        rintro _ w14 ⟨rfl, x14⟩
        replace lw := lw.ext x14
        replace T1 := T1.ext x14
        replace T2 := T2.ext x14
        replace T3 := T3.ext x14
        replace ib1 := ib1.ext' x14
        replace ib2 := ib2.ext' x14
        replace ib3 := ib3.ext' x14
        replace xs := xs.trans x14
        replace x0 := x0.trans x14
        refine zst ?_
        cases e2 : idX false y z
        · refine zst ?_
          exact ⟨rfl, xs, rfl, rfl, rfl, rfl, rfl, rfl, rfl, trivial⟩
        · refine zst ?_
          refine WU.stp rfl rfl rfl (stp_call rfl (t_IdT lw hV hwd T1 T3 V1 V3 (by decide) (by decide))) ?_
          rintro _ w15 ⟨rfl, x15⟩
          replace lw := lw.ext x15
          replace T1 := T1.ext x15
          replace T2 := T2.ext x15
          replace T3 := T3.ext x15
          replace ib1 := ib1.ext' x15
          replace ib2 := ib2.ext' x15
          replace ib3 := ib3.ext' x15
          replace xs := xs.trans x15
          replace x0 := x0.trans x15
          refine zst ?_
          rw [idX_trans false x V1.wf y V2.wf z V3.wf e1 e2]
          refine zst ?_
          exact ⟨rfl, xs, rfl, rfl, rfl, rfl, rfl, rfl, rfl, trivial⟩
    intro w16 x16
    replace lw := lw.ext x16
    replace T1 := T1.ext x16
    replace T2 := T2.ext x16
    replace T3 := T3.ext x16
    replace ib1 := ib1.ext' x16
    replace ib2 := ib2.ext' x16
    replace ib3 := ib3.ext' x16
    replace x0 := x0.trans x16
    refine zst ?_
    refine WU.stp rfl rfl rfl (stp_call rfl (t_Id lw hV hwd T1 T1 V1 V1 (by decide) (by decide))) ?_
    rintro _ w17 ⟨rfl, x17⟩
    replace lw := lw.ext x17
    replace T1 := T1.ext x17
    replace T2 := T2.ext x17
    replace T3 := T3.ext x17
    replace ib1 := ib1.ext' x17
    replace ib2 := ib2.ext' x17
    replace ib3 := ib3.ext' x17
    replace x0 := x0.trans x17
    rw [idX_refl true x V1.wf]
    refine zst ?_
    exact fin1 (.inl rfl) rfl rfl ⟨rfl, x0⟩
end Go.Proofs.YtlemfkbhcleopaaGreatDoor.Law

/- The walks and the plain laws, part 1. -/
import Derived.Test.YtlemfkbhcleopaaGreatDoorY2
import Derived.Lib.Strings
import Derived.Test.YtlemfkbhcleopaaGreatDoorY5
import Derived.Test.YtlemfkbhcleopaaGreatDoorY4
import Derived.Test.YtlemfkbhcleopaaGreatDoorY3
namespace Go.Proofs.YtlemfkbhcleopaaGreatDoor
open Go Go.Kd
set_option maxRecDepth 100000
instance : Plc Tryz.prog 36 [(0, 1), (1, 8)] := plc_of (by kernel_rfl)
instance : Byt Tryz.prog 36 := byt_of (by kernel_rfl)
instance : Fun Tryz.prog 16 := fun_of (by kernel_rfl)
end Go.Proofs.YtlemfkbhcleopaaGreatDoor
namespace Go.Proofs.YtlemfkbhcleopaaGreatDoor
open Go Go.Kd

structure Eqv (t u : Ty) : Prop where
  kd : t.kind = u.kind
  n : t.n = u.n
  c : t.count = u.count
  v : t.vr = u.vr
  el : t.elems = u.elems


end Go.Proofs.YtlemfkbhcleopaaGreatDoor
namespace Go.Proofs.YtlemfkbhcleopaaGreatDoor
open Go Go.Kd

theorem ValidT.good {D : List De} {t : Ty} (h : ValidT D t) (hw : wt t ≤ 16777216) : Good D t := ⟨⟨_, _, Nat.le_refl _, h.sh⟩, hw⟩

end Go.Proofs.YtlemfkbhcleopaaGreatDoor
namespace Go.Proofs.YtlemfkbhcleopaaGreatDoor
open Go Go.Kd

theorem mergeE_nodup : ∀ {L : List (List Mt)} {out : List Mt}, (out.map keyM).Nodup → (∀ l ∈ L, (l.map keyM).Nodup) → ((mergeE L out).map keyM).Nodup
  | [], _, h, _ => h
  | l :: L, out, h, hL => by
    show ((mergeE L (l.foldl addM out)).map keyM).Nodup
    refine mergeE_nodup ?_ fun k hk => hL k (List.mem_cons_of_mem _ hk)
    have hl := hL l (List.mem_cons_self ..)
    rw [addM_fold hl, List.map_append, List.nodup_append]
    refine ⟨h, (List.filter_sublist.map _).nodup hl, fun a ha b hb => ?_⟩
    obtain ⟨m, hm, rfl⟩ := List.mem_map.1 hb
    have := (List.mem_filter.1 hm).2
    simp only [decide_eq_true_eq] at this
    exact fun e => this (e ▸ ha)
/-- how the methods of an interface came about -/
theorem IM.inv {D : List De} {t u : Ty} {c : Nat} {ms : List Mt} (hu : underT D t = u) (h9 : u.kind = 9) (hc : u.count = c) (hcl : c ≤ u.elems.length) (h : IM D t ms) :
    ∃ L, L.length = u.elems.length - c ∧ (∀ (j : Nat) e l, u.elems[c + j]? = some e → L[j]? = some l → IM D e l) ∧ ms = mergeE L (ownM u c) := by
  subst hu
  cases h with
  | no _ k => exact absurd h9 k
  | yes _ L _ hl h1 h2 =>
    have hlen : (L.take c).length = c := by rw [List.length_take]; omega
    have hown : L.take c = ((underT D t).elems.take c).map (fun e => [(⟨e.name, (underT D t).n, e⟩ : Mt)]) := by
      refine lists_eq _ _ (by simp; omega) fun i a b ha hb => ?_
      have hi : i < c := by rw [← hlen]; exact (List.getElem?_eq_some_iff.1 ha).1
      rw [List.getElem?_take_of_lt hi] at ha
      rw [List.getElem?_map, List.getElem?_take_of_lt hi] at hb
      cases he : (underT D t).elems[i]? with
      | none => rw [he] at hb; cases hb
      | some e =>
        rw [he] at hb
        rw [h1 i e a he ha (by omega)]
        exact Option.some.inj hb
    refine ⟨L.drop c, by simp; omega, fun j e l he hj => ?_, ?_⟩
    · rw [List.getElem?_drop] at hj
      exact h2 (c + j) e l he hj (by omega)
    · conv => lhs; rw [← List.take_append_drop c L]
      rw [mergeM_lo _ _ _ 0 [] (by rw [hlen, hc]; simp), mergeM_hi _ _ _ _ (by rw [hlen, hc]; simp), List.nil_append, hown, flatten_single (fun e => (⟨e.name, (underT D t).n, e⟩ : Mt))]
      rfl
/-- an interface's methods have names of their own -/
theorem IM_nodup {D : List De} (hD : OkD D) (hV : ValidD D) {t : Ty} {ms : List Mt} (h : IM D t ms) : Good D t → Legal D t → (ms.map keyM).Nodup := by
  induction h with
  | no => intros; simp
  | yes t L h9 hl h1 h2 ih =>
    intro hG hL
    have hGu := hG.under hD
    have hLu := legal_under hV hG hL
    obtain ⟨i, v, _, hs⟩ := hGu.sh
    have c0 := hs.shape.c0 (.inr h9)
    have c1 := hs.shape.c1 (.inr h9)
    obtain ⟨c, hc⟩ : ∃ c : Nat, (underT D t).count = c := ⟨(underT D t).count.toNat, by omega⟩
    obtain ⟨L', l1, l2, e⟩ := IM.inv rfl h9 hc (by omega) (.yes t L h9 hl h1 h2)
    rw [e]
    refine mergeE_nodup (own_nodup (by have := hLu.here.unq h9; rwa [hc, Int.toNat_natCast] at this) fun i e he hi => hLu.here.mth h9 i e he (by omega)) fun l hl' => ?_
    obtain ⟨j, hj⟩ := List.getElem?_of_mem hl'
    have hlt := (List.getElem?_eq_some_iff.1 hj).1
    have hel : (underT D t).elems[c + j]? = some (underT D t).elems[c + j] := List.getElem?_eq_getElem (by omega)
    have hL0 : L[c + j]? = some L[c + j] := List.getElem?_eq_getElem (by omega)
    have := IM.det (l2 j _ l hel hj) (h2 (c + j) _ _ hel hL0 (by omega))
    rw [this]
    exact ih (c + j) _ _ hel hL0 (by omega) (hGu.el hel) (hLu.el _ _ hel)
theorem IM_legal {D : List De} (hD : OkD D) (hV : ValidD D) {t : Ty} {ms : List Mt} (h : IM D t ms) (hG : Good D t) (hL : Legal D t) : ∀ m ∈ ms, Legal D m.fn := legal_IM hV hD h hG hL
theorem anM_keyA (ms : List Mt) : (anM ms).map keyA = ms.map keyM := by unfold anM; rw [List.map_map]; rfl
/-- a legal type's tree is well-formed -/
theorem exp_wf {D : List De} (hD : OkD D) (hV : ValidD D) {t : Ty} {x : X} (h : Exp D t x) : Good D t → Legal D t → WfX x := by
  induction h with
  | leaf t hk => exact fun _ _ => .leaf _ _
  | plain t es h2 h8 hl _ ih =>
    intro hG hL
    refine .node _ _ _ _ _ _ (fun h => by omega) fun e he => ?_
    obtain ⟨i, hi⟩ := List.getElem?_of_mem he
    have hlt := (List.getElem?_eq_some_iff.1 hi).1
    have hel : (unaliasT D t).elems[i]? = some (unaliasT D t).elems[i] := List.getElem?_eq_getElem (by omega)
    exact ih i _ e hel hi ((hG.unalias hD).el hel) ((legal_unalias hV hG hL).el _ _ hel)
  | iface t ms es h9 hm hl _ ih =>
    intro hG hL
    have hG' := hG.unalias hD
    have hL' := legal_unalias hV hG hL
    refine .node _ _ _ _ _ _ (fun _ => ⟨by unfold anM; rw [List.length_map, hl], by rw [anM_keyA]; exact IM_nodup hD hV hm hG' hL'⟩) fun e he => ?_
    obtain ⟨i, hi⟩ := List.getElem?_of_mem he
    have hlt := (List.getElem?_eq_some_iff.1 hi).1
    have hel : ms[i]? = some ms[i] := List.getElem?_eq_getElem (by omega)
    exact ih i _ e hel hi (IM_good hD hm hG' _ (List.mem_of_getElem? hel)) (IM_legal hD hV hm hG' hL' _ (List.mem_of_getElem? hel))

end Go.Proofs.YtlemfkbhcleopaaGreatDoor
namespace Go.Kd

/-- an operation of a drawn region: its number, where its result goes, what holds of the result from then on; B: the new blocks that it made for the result -/
structure Tsk where
  i : Nat
  d : Nat
  o : Oper
  B : Value → Nat → Prop
  F : Value → World → Prop
section
variable {P : Program} {n : Nat} {ops : List Oper} {Q : Post} {D : List Deferred} {e : Env} {w : World}
end
end Go.Kd
namespace Go.Proofs.YtlemfkbhcleopaaGreatDoor.Law
open Go Go.Kd
set_option maxRecDepth 100000

abbrev E0 : ByteArray := ⟨#[]⟩







/-- the value of a type: what it reads -/
structure TvP (w : World) (p : Nat → Prop) (v : Value) (t : Ty) : Prop where
  ex : ∃ a c, v = .agg (tyc t a c).toArray ∧ TysV w p a c t.elems
abbrev TvV (w : World) (v : Value) (t : Ty) : Prop := TvP w (fun b => b < w.heap.size) v t
theorem TvP.mono {w : World} {p q : Nat → Prop} (hq : ∀ b, p b → q b) {v : Value} {t : Ty} (h : TvP w p v t) : TvP w q v t := by
  obtain ⟨a, c, h1, h2⟩ := h.ex
  exact ⟨a, c, h1, h2.mono hq⟩
theorem TvP.at_ {w w' : World} (x : Ext w w') {p : Nat → Prop} {v : Value} {t : Ty} (h : TvP w p v t) : TvP w' p v t := by
  obtain ⟨a, c, h1, h2⟩ := h.ex
  exact ⟨a, c, h1, h2.ext x⟩
theorem TvP.ext {w w' : World} (x : Ext w w') {v : Value} {t : Ty} (h : TvV w v t) : TvV w' v t := (h.at_ x).mono fun b hb => by have := x.size; omega
/-- a new variable for a type -/
abbrev zT : List Value := tyl 0 0 0 false (.slice none 0 0) E0 E0 false
/-- declarations in memory -/
structure LW (D : List De) (a : Option Addr) (cp : Nat) (w : World) : Prop where
  hp : Prp w
  hd : DsV w (fun b => b < w.heap.size) (.slice a D.length cp) D
theorem LW.ext {D : List De} {a : Option Addr} {cp : Nat} {w w' : World} (x : Ext w w') (h : LW D a cp w) : LW D a cp w' := ⟨h.hp.ext x, (h.hd.ext x).mono fun b hb => by have := x.size; omega⟩
theorem TvV.tys {w : World} {t : Ty} {a : Option Addr} {c : Nat} (h : TvV w (.agg (tyc t a c).toArray) t) : TysV w (fun b => b < w.heap.size) a c t.elems := by
  obtain ⟨a', c', e, h⟩ := h.ex
  simp only [Value.agg.injEq, Array.mk.injEq, List.cons.injEq, Value.slice.injEq, true_and, and_true] at e
  obtain ⟨rfl, rfl⟩ := e
  exact h
/-- a valid type with its tree; its weight is at most n -/
structure VX (D : List De) (n : Nat) (t : Ty) (x : X) : Prop where
  vt : ValidT D t
  wt : wt t ≤ n
  ex : Exp D t x
  wf : WfX x
theorem VX.of {D : List De} (hD : OkD D) (hV : ValidD D) {n : Nat} {t : Ty} {x : X} (h : ValidT D t) (hw : Go.Proofs.YtlemfkbhcleopaaGreatDoor.wt t ≤ n) (hn : n ≤ 16777216) (hx : Exp D t x) : VX D n t x := ⟨h, hw, hx, exp_wf hD hV hx (h.good (by omega)) h.lg⟩
theorem VX.ofT {D : List De} (hD : OkD D) (hV : ValidD D) {n : Nat} {t : Ty} (h : ValidT D t) (hw : Go.Proofs.YtlemfkbhcleopaaGreatDoor.wt t ≤ n) (hn : n ≤ 16777216) : ∃ x, VX D n t x := by
  obtain ⟨x, hx⟩ := (h.good (by omega)).exp hD
  exact ⟨x, .of hD hV h hw hn hx⟩
theorem t_Valid2 {D : List De} {a : Option Addr} {cp : Nat} {w : World} (lw : LW D a cp w) (hwd : wtD D ≤ 1048576) {t u : Ty} {v v' : Value} {a1 a2 : Option Addr} {c1 c2 r : Nat} (hr : Has w r (.cells (tyc t a1 c1 ++ tyc u a2 c2).toArray 26)) (hv : v = .agg (tyc t a1 c1).toArray) (hv' : v' = .agg (tyc u a2 c2).toArray) (T : TvV w v t) (T' : TvV w v' u) (hw : wt t ≤ 16777216) (hw' : wt u ≤ 16777216) :
    Calls Tryz.prog 12 #[.slice a D.length cp, .slice (some ⟨r, 0, none⟩) 2 2] w (Ret fun q w' => ∃ b, q = .bool b ∧ (b = true → ValidD D ∧ ValidT D t ∧ ValidT D u) ∧ Ext w w') := by
  subst hv hv'
  refine (c_Valid (l := [t, u]) (by omega) (by have := len_wtD D; omega) (by simpa using ⟨hw, hw'⟩) (by simp) a cp (some ⟨r, 0, none⟩) 2 w (fun b => b < w.heap.size) (fun b hb => hb) lw.hd (tys_two hr hr.lt T.tys T'.tys)).mono fun e w' ⟨q, he, b, e1, h, x⟩ => ⟨q, he, b, e1, fun hb => ?_, x⟩
  obtain ⟨h1, h2⟩ := h hb
  exact ⟨h1, h2 t (by simp), h2 u (by simp)⟩
/-- impl.Identical of two types -/
theorem t_Id {D : List De} {t u : Ty} {x y : X} {a : Option Addr} {cp n m : Nat} {v1 v2 : Value} {w : World} (lw : LW D a cp w) (hV : ValidD D) (hwd : wtD D ≤ 1048576) (h1 : TvV w v1 t) (h2 : TvV w v2 u) (g1 : VX D n t x) (g2 : VX D m u y) (hn : n ≤ 16777216) (hm : m ≤ 16777216) :
    Calls Tryz.prog 15 #[.slice a D.length cp, v1, v2] w (Ret fun r w' => r = .bool (idX true x y) ∧ Ext w w') := by
  obtain ⟨a1, c1, rfl, ht⟩ := h1.ex
  obtain ⟨a2, c2, rfl, hu⟩ := h2.ex
  exact (c_iIdentical lw.hp hV g1.vt g2.vt (by omega) (Nat.le_trans g1.wt hn) (Nat.le_trans g2.wt hm) g1.ex g2.ex lw.hd ht hu).mono fun e w' ⟨r, he, h, _, _, x⟩ => ⟨r, he, h, x⟩
theorem okD {D : List De} (hV : ValidD D) (hwd : wtD D ≤ 1048576) : OkD D := ⟨hV.sh, by omega, by have := len_wtD D; omega⟩
end Go.Proofs.YtlemfkbhcleopaaGreatDoor.Law
namespace Go.Proofs.YtlemfkbhcleopaaGreatDoor.Law
open Go Go.Kd
set_option maxRecDepth 100000


end Go.Proofs.YtlemfkbhcleopaaGreatDoor.Law
namespace Go.Proofs.YtlemfkbhcleopaaGreatDoor
open Go Go.Kd

mutual
def unt : Ty → Ty
  | .mk k n c v es nm _ em => .mk k n c v (unts es) nm eB em
def unts : List Ty → List Ty
  | [] => []
  | e :: r => unt e :: unts r
end
theorem unts_map : ∀ l : List Ty, unts l = l.map unt
  | [] => by rw [unts]; rfl
  | e :: r => by rw [unts, unts_map r]; rfl
theorem unt_eq (t : Ty) : unt t = .mk t.kind t.n t.count t.vr (t.elems.map unt) t.name eB t.emb := by cases t; rw [unt, unts_map]; rfl
theorem unt_kind (t : Ty) : (unt t).kind = t.kind := by rw [unt_eq]; rfl
theorem unt_n (t : Ty) : (unt t).n = t.n := by rw [unt_eq]; rfl
theorem unt_count (t : Ty) : (unt t).count = t.count := by rw [unt_eq]; rfl
theorem unt_vr (t : Ty) : (unt t).vr = t.vr := by rw [unt_eq]; rfl
theorem unt_elems (t : Ty) : (unt t).elems = t.elems.map unt := by rw [unt_eq]; rfl
theorem unt_name (t : Ty) : (unt t).name = t.name := by rw [unt_eq]; rfl
theorem unt_emb (t : Ty) : (unt t).emb = t.emb := by rw [unt_eq]; rfl
theorem unt_tag (t : Ty) : (unt t).tag = eB := by rw [unt_eq]; rfl
theorem unt_el {t : Ty} {i : Nat} {e : Ty} (h : (unt t).elems[i]? = some e) : ∃ u, t.elems[i]? = some u ∧ e = unt u := by
  rw [unt_elems, List.getElem?_map] at h
  cases hq : t.elems[i]? with
  | none => rw [hq] at h; cases h
  | some u => rw [hq] at h; exact ⟨u, rfl, by simpa using h.symm⟩
theorem unt_at {t : Ty} {i : Nat} {u : Ty} (h : t.elems[i]? = some u) : (unt t).elems[i]? = some (unt u) := by rw [unt_elems, List.getElem?_map, h]; rfl
def untE (e : De) : De := ⟨e.name, e.pkg, e.al, unt e.ty, e.ms.map fun m => ⟨m.ptr, unt m.fn⟩⟩
def untD (D : List De) : List De := D.map untE
theorem untD_at {D : List De} {i : Nat} {e : De} (h : (untD D)[i]? = some e) : ∃ e0, D[i]? = some e0 ∧ e = untE e0 := by
  unfold untD at h
  rw [List.getElem?_map] at h
  cases hq : D[i]? with
  | none => rw [hq] at h; cases h
  | some u => rw [hq] at h; exact ⟨u, rfl, by simpa using h.symm⟩
theorem untD_len (D : List De) : (untD D).length = D.length := List.length_map _
theorem decl_unt (D : List De) (t : Ty) : decl (untD D) (unt t) = (decl D t).map untE := by
  unfold decl untD
  rw [unt_kind, unt_n, List.getElem?_map]
  split <;> rfl
theorem isAl_unt (D : List De) (t : Ty) : isAl (untD D) (unt t) = isAl D t := by
  unfold isAl
  rw [decl_unt]
  cases decl D t <;> rfl
theorem unal1_unt (D : List De) (t : Ty) : unal1 (untD D) (unt t) = unt (unal1 D t) := by
  unfold unal1
  rw [decl_unt]
  cases decl D t with
  | none => rfl
  | some e =>
    show (if e.al then unt e.ty else unt t) = unt (if e.al then e.ty else t)
    cases e.al <;> rfl
theorem unt_setN (t : Ty) (m : Int) : unt (t.setN m) = (unt t).setN m := by cases t; rw [unt_eq, unt_eq]; rfl
theorem unt_any : unt anyT = anyT := by rw [unt_eq]; rfl
theorem unt_err : unt errT = errT := by
  rw [unt_eq]
  show Ty.mk 9 0 1 false [unt _] eB eB false = _
  rw [unt_eq]
  show Ty.mk 9 0 1 false [.mk 8 0 0 false [unt _] _ eB false] eB eB false = _
  rw [unt_eq]
  rfl
theorem norm_unt (t : Ty) : norm (unt t) = unt (norm t) := by
  unfold norm
  rw [unt_kind, unt_n]
  repeat' split
  · rw [unt_setN]
  · rw [unt_setN]
  · rw [unt_any]
  · rfl
  · rfl
theorem rep_unt {f g : Ty → Ty} (h : ∀ t, f (unt t) = unt (g t)) (t : Ty) : ∀ k, rep f k (unt t) = unt (rep g k t)
  | 0 => rfl
  | k + 1 => by show f (rep f k (unt t)) = unt (g (rep g k t)); rw [rep_unt h t k]; exact h _
theorem unalias_unt (D : List De) (t : Ty) : unaliasT (untD D) (unt t) = unt (unaliasT D t) := by
  unfold unaliasT
  rw [untD_len, rep_unt (unal1_unt D), norm_unt]
theorem und1_unt (D : List De) (t : Ty) : und1 (untD D) (unt t) = unt (und1 D t) := by
  unfold und1
  rw [decl_unt]
  cases decl D t with
  | none => rfl
  | some e => exact unalias_unt D e.ty
theorem errN_unt (t : Ty) : errN (unt t) = unt (errN t) := by
  unfold errN
  rw [unt_kind, unt_n]
  split
  · rw [unt_err]
  · rfl
theorem under_unt (D : List De) (t : Ty) : underT (untD D) (unt t) = unt (underT D t) := by
  unfold underT
  rw [unalias_unt, untD_len, rep_unt (und1_unt D), errN_unt]
/-- methods -/
def untM (m : Mt) : Mt := ⟨m.name, m.pkg, unt m.fn⟩
theorem findM_unt (l : List Mt) (s : List UInt8) (p : Int) : findM (l.map untM) s p = (findM l s p).map untM := by
  unfold findM
  induction l with
  | nil => rfl
  | cons a r ih =>
    rw [List.map_cons, List.find?_cons, List.find?_cons]
    show (match sameNm a.name.toList a.pkg s p with | true => some (untM a) | false => _) = _
    cases sameNm a.name.toList a.pkg s p
    · exact ih
    · rfl
theorem addM_unt (out : List Mt) (m : Mt) : addM (out.map untM) (untM m) = (addM out m).map untM := by
  unfold addM
  have : findM (out.map untM) (untM m).name.toList (untM m).pkg = (findM out m.name.toList m.pkg).map untM := findM_unt out _ _
  rw [this]
  cases findM out m.name.toList m.pkg <;> simp
theorem fold_unt : ∀ (l out : List Mt), (l.map untM).foldl addM (out.map untM) = (l.foldl addM out).map untM
  | [], _ => rfl
  | m :: l, out => by
    rw [List.map_cons, List.foldl_cons, List.foldl_cons, addM_unt]
    exact fold_unt l _
theorem mergeM_unt (c : Int) : ∀ (i : Nat) (L : List (List Mt)) (out : List Mt), mergeM c i (L.map (·.map untM)) (out.map untM) = (mergeM c i L out).map untM
  | _, [], _ => rfl
  | i, l :: L, out => by
    show mergeM c (i + 1) (L.map (·.map untM)) (if (i : Int) < c then out.map untM ++ l.map untM else (l.map untM).foldl addM (out.map untM)) = (mergeM c (i + 1) L (if (i : Int) < c then out ++ l else l.foldl addM out)).map untM
    rw [← mergeM_unt c (i + 1) L]
    congr 1
    split
    · rw [List.map_append]
    · exact fold_unt l out
theorem im_unt {D : List De} {t : Ty} {ms : List Mt} (h : IM D t ms) : IM (untD D) (unt t) (ms.map untM) := by
  induction h with
  | no t hk => exact .no (unt t) (by rw [under_unt, unt_kind]; exact hk)
  | yes t L h9 hl h1 h2 ih =>
    have hu := under_unt D t
    have := IM.yes (D := untD D) (unt t) (L.map (·.map untM)) (by rw [hu, unt_kind]; exact h9) (by rw [hu, unt_elems, List.length_map, List.length_map]; exact hl) (fun i e l he hL hc => by
      rw [hu] at he hc ⊢
      rw [unt_count] at hc
      obtain ⟨u, hw, rfl⟩ := unt_el he
      rw [List.getElem?_map] at hL
      cases hq : L[i]? with
      | none => rw [hq] at hL; cases hL
      | some k =>
        rw [hq] at hL
        obtain rfl : k.map untM = l := by simpa using hL
        rw [h1 i u k hw hq hc, unt_n, unt_name]
        rfl) (fun i e l he hL hc => by
      rw [hu] at he hc
      rw [unt_count] at hc
      obtain ⟨u, hw, rfl⟩ := unt_el he
      rw [List.getElem?_map] at hL
      cases hq : L[i]? with
      | none => rw [hq] at hL; cases hL
      | some k =>
        rw [hq] at hL
        obtain rfl : k.map untM = l := by simpa using hL
        exact ih i u k hw hq hc)
    rw [hu, unt_count] at this
    have e := mergeM_unt (underT D t).count 0 L []
    rw [List.map_nil] at e
    rw [e] at this
    exact this
/-- trees -/
def untA (a : An) : An := ⟨a.name, [], a.pkg, a.emb⟩
mutual
def unX : X → X
  | .leaf k n => .leaf k n
  | .node k n c v an es => .node k n c v (an.map untA) (unXs es)
def unXs : List X → List X
  | [] => []
  | x :: r => unX x :: unXs r
end
theorem unXs_map : ∀ l : List X, unXs l = l.map unX
  | [] => by rw [unXs]; rfl
  | e :: r => by rw [unXs, unXs_map r]; rfl
theorem unX_node (k n c : Int) (v : Bool) (an : List An) (es : List X) : unX (.node k n c v an es) = .node k n c v (an.map untA) (es.map unX) := by rw [unX, unXs_map]
theorem unX_leaf (k n : Int) : unX (.leaf k n) = .leaf k n := by rw [unX]
theorem exp_unt {D : List De} {t : Ty} {x : X} (h : Exp D t x) : Exp (untD D) (unt t) (unX x) := by
  induction h with
  | leaf t hk =>
    have hu := unalias_unt D t
    have := Exp.leaf (D := untD D) (unt t) (by rw [hu, unt_kind]; exact hk)
    rw [hu, unt_kind, unt_n] at this
    rw [unX_leaf]
    exact this
  | plain t es h2 h8 hl he ih =>
    have hu := unalias_unt D t
    have := Exp.plain (D := untD D) (unt t) (es.map unX) (by rw [hu, unt_kind]; exact h2) (by rw [hu, unt_kind]; exact h8) (by rw [hu, unt_elems, List.length_map, List.length_map]; exact hl) fun i e x he' hx => by
      rw [hu] at he'
      obtain ⟨u, hw, rfl⟩ := unt_el he'
      rw [List.getElem?_map] at hx
      cases hq : es[i]? with
      | none => rw [hq] at hx; cases hx
      | some z =>
        rw [hq] at hx
        obtain rfl : unX z = x := by simpa using hx
        exact ih i u z hw hq
    rw [hu] at this
    have ha : anN (unt (unaliasT D t)) = (anN (unaliasT D t)).map untA := by
      unfold anN
      rw [unt_kind, unt_elems, unt_n]
      split
      · rw [List.map_map, List.map_map]
        refine List.map_congr_left fun e _ => ?_
        show An.mk (unt e).name.toList (unt e).tag.toList _ (unt e).emb = An.mk e.name.toList [] _ e.emb
        rw [unt_name, unt_tag, unt_emb, eB_list]
      · rfl
    have hn : nN (unt (unaliasT D t)) = nN (unaliasT D t) := by unfold nN; rw [unt_kind, unt_n]
    have hc : cN (unt (unaliasT D t)) = cN (unaliasT D t) := by unfold cN; rw [unt_kind, unt_count]
    have hv : vN (unt (unaliasT D t)) = vN (unaliasT D t) := by unfold vN; rw [unt_kind, unt_vr]
    rw [ha, hn, hc, hv, unt_kind] at this
    rw [unX_node]
    exact this
  | iface t ms es h9 hm hl he ih =>
    have hu := unalias_unt D t
    have := Exp.iface (D := untD D) (unt t) (ms.map untM) (es.map unX) (by rw [hu, unt_kind]; exact h9) (by rw [hu]; exact im_unt hm) (by rw [List.length_map, List.length_map]; exact hl) fun i m x hm' hx => by
      rw [List.getElem?_map] at hm' hx
      cases hq : ms[i]? with
      | none => rw [hq] at hm'; cases hm'
      | some k =>
        cases hz : es[i]? with
        | none => rw [hz] at hx; cases hx
        | some z =>
          rw [hq] at hm'
          rw [hz] at hx
          obtain rfl : untM k = m := by simpa using hm'
          obtain rfl : unX z = x := by simpa using hx
          exact ih i k z hq hz
    have ha : anM (ms.map untM) = (anM ms).map untA := by
      unfold anM
      rw [List.map_map, List.map_map]
      rfl
    rw [ha] at this
    rw [unX_node]
    exact this
theorem sameAn_unt : ∀ (an bn : List An), sameAn true (an.map untA) (bn.map untA) = sameAn false an bn
  | [], [] => rfl
  | [], _ :: _ => rfl
  | _ :: _, [] => rfl
  | a :: an, b :: bn => by
    simp only [List.map_cons, sameAn, sameAn_unt an bn]
    simp [untA]
theorem findX_unt : ∀ (an : List An) (es : List X) (s : List UInt8) (p : Int), findX (an.map untA) (es.map unX) s p = (findX an es s p).map unX
  | [], _, _, _ => by simp [findX]
  | _ :: _, [], _, _ => by simp [findX]
  | a :: an, x :: es, s, p => by
    simp only [List.map_cons, findX]
    show (if sameNm a.name a.pkg s p then _ else _) = _
    cases sameNm a.name a.pkg s p
    · exact findX_unt an es s p
    · rfl
theorem idX_unt : ∀ (x y : X), idX true (unX x) (unX y) = idX false x y := by
  refine X.ind (fun k n y => ?_) fun k n c v an es ih y => ?_
  · cases y with
    | leaf => rw [unX_leaf, unX_leaf, idX, idX]
    | node => rw [unX_leaf, unX_node, idX, idX]
  · cases y with
    | leaf => rw [unX_leaf, unX_node, idX, idX]
    | node k' n' c' v' an' es' =>
      rw [unX_node, unX_node, idX_node, idX_node]
      have hL : ∀ (l : List X), (∀ e ∈ l, ∀ y, idX true (unX e) (unX y) = idX false e y) → ∀ l', idL true (l.map unX) (l'.map unX) = idL false l l' := fun l => by
        induction l with
        | nil => intro _ l'; rw [List.map_nil, idL, idL]; cases l' <;> rfl
        | cons e r ihr =>
          intro he l'
          cases l' with
          | nil => rw [List.map_cons, List.map_nil, idL, idL]
          | cons e' r' => rw [List.map_cons, List.map_cons, idL, idL]; simp only [he e (List.mem_cons_self ..), ihr (fun q hq => he q (List.mem_cons_of_mem _ hq))]
      have hM : ∀ (l : List X) (bn : List An), (∀ e ∈ l, ∀ y, idX true (unX e) (unX y) = idX false e y) → idM true (bn.map untA) (l.map unX) (an'.map untA) (es'.map unX) = idM false bn l an' es' := fun l => by
        induction l with
        | nil => intro bn _; rw [List.map_nil, idM, idM]
        | cons e r ihr =>
          intro bn he
          cases bn with
          | nil => rw [List.map_cons, List.map_nil, idM, idM]
          | cons b bn =>
            rw [List.map_cons, List.map_cons, idM, idM]
            simp only [ihr bn (fun q hq => he q (List.mem_cons_of_mem _ hq))]
            show ((match findX (an'.map untA) (es'.map unX) b.name b.pkg with | some y => idX true (unX e) y | none => false) && _) = _
            rw [findX_unt]
            cases findX an' es' b.name b.pkg with
            | none => rfl
            | some y => show (idX true (unX e) (unX y) && _) = _; rw [he e (List.mem_cons_self ..)]
      rw [hL es ih es', hM es an ih, sameAn_unt, List.length_map, List.length_map]
end Go.Proofs.YtlemfkbhcleopaaGreatDoor
namespace Go.Proofs.YtlemfkbhcleopaaGreatDoor
open Go Go.Kd

theorem limitN_unt (D : List De) (k : Int) : limitN (untD D) k = limitN D k := by unfold limitN; rw [untD_len]
theorem shaped_unt {D : List De} {i : Nat} {v : Bool} {t : Ty} (h : Shaped D i v t) : Shaped (untD D) i v (unt t) := by
  induction h with
  | mk v t s _ ih =>
    refine .mk v _ ⟨by rw [unt_kind]; exact s.lo, by rw [unt_kind]; exact s.hi, by rw [unt_kind, unt_elems, List.length_map]; exact s.len, by rw [limitN_unt, unt_kind, unt_n]; exact s.n0, by rw [limitN_unt, unt_kind, unt_n]; exact s.n1, by rw [unt_kind, unt_n, isAl_unt]; exact s.nm, by rw [unt_kind, unt_count]; exact s.c0,
      by rw [unt_kind, unt_count, unt_elems, List.length_map]; exact s.c1, fun hk hv => ?_, fun hk j e he hj => ?_⟩ fun j e he => ?_
    · rw [unt_kind] at hk
      rw [unt_vr] at hv
      obtain ⟨e, e1, e2, e3⟩ := s.vr hk hv
      exact ⟨unt e, by rw [unt_count]; exact e1, by rw [unt_count]; exact unt_at e2, by rw [unt_kind]; exact e3⟩
    · rw [unt_kind] at hk
      rw [unt_count] at hj
      obtain ⟨u, hu, rfl⟩ := unt_el he
      rw [unt_kind]
      exact s.mth hk j u hu hj
    · obtain ⟨u, hu, rfl⟩ := unt_el he
      have := ih j u hu
      unfold holdsT at this ⊢
      rw [unt_kind, unt_count]
      exact this
theorem cmp_unt {D : List De} {t : Ty} {b : Bool} (h : Cmp D t b) : Cmp (untD D) (unt t) b := by
  induction h with
  | no t hk => exact .no _ (by rw [under_unt, unt_kind]; exact hk)
  | yes t hk => exact .yes _ (by rw [under_unt, unt_kind]; exact hk)
  | all t bs hk hl _ ih =>
    refine .all _ bs (by rw [under_unt, unt_kind]; exact hk) (by rw [under_unt, unt_elems, List.length_map]; exact hl) fun i e b he hb => ?_
    rw [under_unt] at he
    obtain ⟨u, hu, rfl⟩ := unt_el he
    exact ih i u b hu hb
theorem names_unt (l : List Ty) : names (l.map unt) = names l := by
  unfold names
  rw [List.map_map]
  exact List.map_congr_left fun e _ => by show (unt e).name.toList = _; rw [unt_name]
theorem typeNm_unt (D : List De) (t : Ty) : typeNm (untD D) (unt t) = typeNm D t := by
  unfold typeNm untD
  rw [unt_kind, unt_n, List.getElem?_map]
  split
  · cases D[t.n.toNat]? <;> rfl
  · rfl
theorem mayEmb_unt {D : List De} {t e : Ty} (h : MayEmb D t e) : MayEmb (untD D) (unt t) (unt e) := by
  refine ⟨?_, by rw [unt_kind]; exact h.kd, by rw [unt_name, typeNm_unt]; exact h.nm, by rw [under_unt, unt_kind]; exact h.np, ?_, by rw [unt_kind, under_unt, unt_kind]; exact h.ni⟩
  · rcases h.el with ⟨h1, h2⟩ | ⟨h1, rfl⟩
    · exact .inl ⟨by rw [unt_kind]; exact h1, unt_at h2⟩
    · exact .inr ⟨by rw [unt_kind]; exact h1, rfl⟩
  · rw [under_unt]
    unfold isUns
    rw [unt_kind, unt_n]
    exact h.nu
theorem cons_unt {D : List De} {t : Ty} {all : List Mt} (h : Cons D t all) : Cons (untD D) (unt t) (all.map untM) := by
  refine ⟨im_unt h.im, fun i e he hc => ?_, fun i e he hc => ?_⟩
  · obtain ⟨u, hu, rfl⟩ := unt_el he
    rw [unt_count] at hc
    rw [under_unt, unt_kind]
    exact h.ifc i u hu hc
  · obtain ⟨u, hu, rfl⟩ := unt_el he
    rw [unt_count] at hc
    obtain ⟨ms, h1, h2⟩ := h.same i u hu hc
    refine ⟨ms.map untM, im_unt h1, fun m hm n hn => ?_⟩
    obtain ⟨m0, hm0, rfl⟩ := List.mem_map.1 hm
    have hn : findM (all.map untM) m0.name.toList m0.pkg = some n := hn
    rw [findM_unt] at hn
    cases hq : findM all m0.name.toList m0.pkg with
    | none => rw [hq] at hn; cases hn
    | some n0 =>
      rw [hq] at hn
      obtain rfl : untM n0 = n := by simpa using hn
      obtain ⟨x, y, h3, h4, h5⟩ := h2 m0 hm0 n0 hq
      exact ⟨unX x, unX y, exp_unt h3, exp_unt h4, by rw [idX_unt]; exact idX_weak x y h5⟩
theorem unnamed_unt {l : List Ty} (h : unnamedT l) : unnamedT (l.map unt) := fun t ht => by
  obtain ⟨u, hu, rfl⟩ := List.mem_map.1 ht
  rw [unt_name]
  exact h u hu
theorem legal_unt {D : List De} {t : Ty} (h : Legal D t) : Legal (untD D) (unt t) := by
  induction h with
  | mk t _ ha ih =>
    refine .mk _ (fun i e he => ?_) ⟨fun hk k h0 => ?_, fun hk i e he hm => ?_, fun hk => ?_, fun hk => ?_, fun hk => ?_, fun hk i e he hc => ?_, fun hk => ?_, fun hk => ?_⟩
    · obtain ⟨u, hu, rfl⟩ := unt_el he
      exact ih i u hu
    · rw [unt_kind] at hk
      obtain ⟨u, hu, rfl⟩ := unt_el h0
      exact cmp_unt (ha.map hk u hu)
    · rw [unt_kind] at hk
      obtain ⟨u, hu, rfl⟩ := unt_el he
      rw [unt_emb] at hm
      obtain ⟨b, hb⟩ := ha.emb hk i u hu hm
      exact ⟨unt b, mayEmb_unt hb⟩
    · rw [unt_kind] at hk
      rw [unt_elems, names_unt]
      exact ha.fld hk
    · rw [unt_kind] at hk
      rw [unt_elems, unt_count, ← List.map_take, names_unt]
      exact (ha.par hk).imp unnamed_unt id
    · rw [unt_kind] at hk
      rw [unt_elems, unt_count, ← List.map_drop, names_unt]
      exact (ha.res hk).imp unnamed_unt id
    · rw [unt_kind] at hk
      rw [unt_count] at hc
      obtain ⟨u, hu, rfl⟩ := unt_el he
      rw [unt_name]
      exact ha.mth hk i u hu hc
    · rw [unt_kind] at hk
      rw [unt_elems, unt_count, ← List.map_take, names_unt]
      exact ha.unq hk
    · rw [unt_kind] at hk
      obtain ⟨all, hc⟩ := ha.con hk
      exact ⟨_, cons_unt hc⟩
theorem valid_unt {D : List De} {t : Ty} (h : ValidT D t) : ValidT (untD D) (unt t) := ⟨by rw [untD_len]; exact shaped_unt h.sh, legal_unt h.lg⟩
theorem validD_unt {D : List De} (h : ValidD D) : ValidD (untD D) := by
  refine ⟨fun i e he => ?_, fun i e he => ?_, fun i e he => ?_, fun i e he => ?_, fun i e he => ?_⟩
  all_goals obtain ⟨e0, h0, rfl⟩ := untD_at he
  · exact shaped_unt (h.sh i e0 h0)
  · exact h.nm i e0 h0
  · exact h.pkg i e0 h0
  · exact legal_unt (h.lg i e0 h0)
  · have hm := h.ms i e0 h0
    refine ⟨fun m hmm => ?_, ?_, fun hne => ?_⟩
    · obtain ⟨m0, hm0, rfl⟩ := List.mem_map.1 hmm
      obtain ⟨h1, h2, h3, h4⟩ := hm.fn m0 hm0
      exact ⟨by show (unt m0.fn).name.toList ≠ us; rw [unt_name]; exact h1, by show (unt m0.fn).kind = 8; rw [unt_kind]; exact h2, by rw [untD_len]; exact shaped_unt h3, legal_unt h4⟩
    · have hms : names ((untE e0).ms.map (·.fn)) = names (e0.ms.map (·.fn)) := by
        rw [← names_unt (e0.ms.map (·.fn)), List.map_map]
        show names ((e0.ms.map fun m => (⟨m.ptr, unt m.fn⟩ : Me)).map (·.fn)) = _
        rw [List.map_map]
        rfl
      rw [hms]
      show Uniq (_ ++ (if (underT (untD D) (unt e0.ty)).kind = 7 then names (underT (untD D) (unt e0.ty)).elems else []))
      rw [under_unt, unt_kind, unt_elems, names_unt]
      exact hm.unq
    · have hne' : e0.ms ≠ [] := fun h => hne (by show e0.ms.map _ = []; rw [h]; rfl)
      obtain ⟨h1, h2, h3, h4⟩ := hm.kind hne'
      refine ⟨h1, ?_, ?_, ?_⟩
      · show (underT (untD D) (unt e0.ty)).kind ≠ 2
        rw [under_unt, unt_kind]; exact h2
      · show (underT (untD D) (unt e0.ty)).kind ≠ 9
        rw [under_unt, unt_kind]; exact h3
      · show ¬ isUns (underT (untD D) (unt e0.ty))
        rw [under_unt]
        unfold isUns
        rw [unt_kind, unt_n]
        exact h4
mutual
theorem wt_unt : ∀ t : Ty, wt (unt t) ≤ wt t
  | .mk k n c v es nm tg em => by
    rw [unt, wt, wt]
    have := wts_unt es
    show 1 + (nm.size + 0) + _ ≤ _
    omega
theorem wts_unt : ∀ l : List Ty, wts (unts l) ≤ wts l
  | [] => by rw [unts]; exact Nat.le_refl _
  | e :: r => by
    rw [unts, wts, wts]
    have := wt_unt e
    have := wts_unt r
    omega
end
theorem wtM_unt : ∀ l : List Me, wtM (l.map fun m => ⟨m.ptr, unt m.fn⟩) ≤ wtM l
  | [] => Nat.le_refl _
  | m :: r => by
    have h1 := wtM_unt r
    have h2 := wt_unt m.fn
    unfold wtM at h1 ⊢
    simp only [List.map_cons, List.sum_cons]
    omega
theorem wtD_unt : ∀ D : List De, wtD (untD D) ≤ wtD D
  | [] => Nat.le_refl _
  | e :: r => by
    have h1 := wtD_unt r
    have h2 := wt_unt e.ty
    have h3 := wtM_unt e.ms
    unfold wtD untD at h1 ⊢
    simp only [List.map_cons, List.sum_cons]
    show wt (unt e.ty) + (e.name.size + wtM (e.ms.map fun m => ⟨m.ptr, unt m.fn⟩)) + _ ≤ wt e.ty + (e.name.size + wtM e.ms) + _
    omega
end Go.Proofs.YtlemfkbhcleopaaGreatDoor
namespace Go.Kd
theorem Cells.app {w w' : World} {v : Value} (a : App w w' v) {b o : Nat} {cs : List Value} (h : Cells w b o cs) (hb : b < w.heap.size ∧ v.ownBlock ≠ some b) : Cells w' b o cs := fun j u hu => by
  have h1 := h j u hu
  unfold World.cell? at h1 ⊢
  rw [a.block b hb.1 (fun e => hb.2 e.symm)]
  exact h1
theorem SlC.app {w w' : World} {v : Value} (a : App w w' v) {p : Nat → Prop} (hp : ∀ b, p b → b < w.heap.size ∧ v.ownBlock ≠ some b) {sz n : Nat} {ad : Option Addr} {f : Nat → List Value} (h : SlC w p sz ad n f) : SlC w' p sz ad n f := fun i hi => by
  obtain ⟨b, o, h1, h0, h2⟩ := h i hi
  exact ⟨b, o, h1, h0, h2.app a (hp b h0)⟩
end Go.Kd
namespace Go.Proofs.YtlemfkbhcleopaaGreatDoor
open Go Go.Kd
theorem TyV.app {w w' : World} {v : Value} (a : App w w' v) {p : Nat → Prop} (hp : ∀ b, p b → b < w.heap.size ∧ v.ownBlock ≠ some b) {cs : List Value} {t : Ty} (h : TyV w p cs t) : TyV w' p cs t := by
  induction h with
  | mk k n c vr es nm tg em a' cp f _ hs hc ih => exact .mk k n c vr es nm tg em a' cp f ih (hs.app a hp) hc
theorem MeV.mono {w : World} {p q : Nat → Prop} {cs : List Value} {m : Me} (h : MeV w p cs m) (hq : ∀ b, p b → q b) : MeV w q cs m := by
  obtain ⟨ts, h1, h2⟩ := h
  exact ⟨ts, h1, h2.mono hq⟩
theorem MeV.app {w w' : World} {v : Value} {p : Nat → Prop} {cs : List Value} {m : Me} (h : MeV w p cs m) (a : App w w' v) (hp : ∀ b, p b → b < w.heap.size ∧ v.ownBlock ≠ some b) : MeV w' p cs m := by
  obtain ⟨ts, h1, h2⟩ := h
  exact ⟨ts, h1, h2.app a hp⟩
theorem DeV.mono {w : World} {p q : Nat → Prop} {cs : List Value} {e : De} (h : DeV w p cs e) (hq : ∀ b, p b → q b) : DeV w q cs e := by
  obtain ⟨ts, a, cp, f, h1, h2, h3, h4⟩ := h
  exact ⟨ts, a, cp, f, h1, h2.mono hq, h3.mono hq, fun i m hm => MeV.mono (h4 i m hm) hq⟩
theorem DeV.app {w w' : World} {v : Value} {p : Nat → Prop} {cs : List Value} {e : De} (h : DeV w p cs e) (a : App w w' v) (hp : ∀ b, p b → b < w.heap.size ∧ v.ownBlock ≠ some b) : DeV w' p cs e := by
  obtain ⟨ts, a', cp, f, h1, h2, h3, h4⟩ := h
  exact ⟨ts, a', cp, f, h1, h2.app a hp, h3.app a hp, fun i m hm => MeV.app (h4 i m hm) a hp⟩
theorem tyc_unt (t : Ty) (a : Option Addr) (cp : Nat) : tyc (unt t) a cp = tyl t.kind t.n t.count t.vr (.slice a t.elems.length cp) t.name eB t.emb := by
  show tyl (unt t).kind (unt t).n (unt t).count (unt t).vr (.slice a (unt t).elems.length cp) (unt t).name (unt t).tag (unt t).emb = _
  rw [unt_kind, unt_n, unt_count, unt_vr, unt_elems, unt_name, unt_tag, unt_emb, List.length_map]
end Go.Proofs.YtlemfkbhcleopaaGreatDoor
namespace Go.Proofs.YtlemfkbhcleopaaGreatDoor.Law
open Go Go.Kd
set_option maxRecDepth 100000

/-- new blocks, but for the slice that still grows -/
def nb (base : Nat) (w : World) (v : Value) (b : Nat) : Prop := base ≤ b ∧ b < w.heap.size ∧ v.ownBlock ≠ some b
/-- rows that stand for the elements of a list -/
def Rwg {α : Type} (P : List Value → α → Prop) (R : List (List Value)) (l : List α) : Prop := ∀ (i : Nat) r e, R[i]? = some r → l[i]? = some e → P r e
theorem rwg_snoc {α : Type} {P : List Value → α → Prop} {R : List (List Value)} {l : List α} {k : Nat} {r : List Value} {e : α} (hl : R.length = k) (h : Rwg P R l) (he : l[k]? = some e) (hr : P r e) : Rwg P (R ++ [r]) l := fun i r' e' h1 h2 => by
  rcases Nat.lt_trichotomy i k with hi | hi | hi
  · rw [List.getElem?_append_left (by omega)] at h1
    exact h i r' e' h1 h2
  · subst hi
    rw [List.getElem?_append_right (by omega), hl, Nat.sub_self] at h1
    simp at h1
    subst h1
    rw [he] at h2
    cases h2
    exact hr
  · rw [List.getElem?_eq_none (by simp; omega)] at h1
    cases h1
theorem own_row {α : Type} {P : List Value → α → Prop} {w : World} {base el sz : Nat} {v : Value} {R : List (List Value)} {l : List α} (ho : Own w base el sz v R) (hl : R.length = l.length) (hR : Rwg P R l) :
    ∃ a cp, v = .slice a l.length cp ∧ l.length ≤ cp ∧ SlC w (fun b => base ≤ b ∧ b < w.heap.size) sz a l.length (fun i => R.getD i []) ∧ ∀ (i : Nat) e, l[i]? = some e → P (R.getD i []) e := by
  obtain ⟨a, cp, e, h1, h2⟩ := ho.shape
  refine ⟨a, cp, by rw [e, hl], by omega, by rw [← hl]; exact h2.mono fun b hb => ho.lt b hb, fun i e' he => ?_⟩
  have hi : i < R.length := by rw [hl]; exact (List.getElem?_eq_some_iff.1 he).1
  rw [List.getD_eq_getElem?_getD, List.getElem?_eq_getElem hi]
  exact hR i _ e' (List.getElem?_eq_getElem hi) he
/-- rows that are types without tags -/
abbrev Rwu (w : World) (p : Nat → Prop) (R : List (List Value)) (l : List Ty) : Prop := Rwg (fun r e => TyV w p r (unt e)) R l
theorem own_tyu {w : World} {base : Nat} {v : Value} {R : List (List Value)} {l : List Ty} (ho : Own w base 26 8 v R) (hl : R.length = l.length) (hR : Rwu w (nb base w v) R l) :
    ∃ a cp, v = .slice a l.length cp ∧ TysV w (fun b => base ≤ b ∧ b < w.heap.size) a cp (l.map unt) := by
  obtain ⟨a, cp, e, h0, h1, h2⟩ := own_row ho hl hR
  refine ⟨a, cp, e, ⟨by rw [List.length_map]; omega, _, by rw [List.length_map]; exact h1, fun i e' he => ?_⟩⟩
  rw [List.getElem?_map, Option.map_eq_some_iff] at he
  obtain ⟨t, hq, rfl⟩ := he
  exact (h2 i t hq).mono fun b hb => ⟨hb.1, hb.2.1⟩
/-- a type without tags, in new blocks -/
abbrev Mu (w : World) (t : Ty) (r : Value) (w' : World) : Prop := TvP w' (fun b => w.heap.size ≤ b ∧ b < w'.heap.size) r (unt t) ∧ Ext w w'
set_option maxHeartbeats 4000000 in
theorem n_untagged : ∀ (n : Nat) {t : Ty} {a : Option Addr} {cp : Nat} {w : World} {p : Nat → Prop}, wt t ≤ n → TysV w p a cp t.elems → (∀ b, p b → b < w.heap.size) → n ≤ 16777216 → Calls Tryz.prog 16 #[.agg (tyc t a cp).toArray] w (Ret (Mu w t)) := by
  intro n
  induction n with
  | zero => intro t a cp w p hw; have := wt_pos t; omega
  | succ n ih =>
  intro t a cp w p hw ht hp hn
  have hlen : t.elems.length ≤ 16777216 := by
    have := wts_len t.elems
    rw [wt_eq] at hw
    omega
  refine W.enter (args := [.agg (tyc t a cp).toArray]) Tryz.func16 rfl Tryz.ntmps16 rfl rfl ?_
  refine zst ?_
  refine WU.stp rfl rfl rfl (by first | exact stp_box rfl rfl | exact stp_box1 rfl rfl) ?_
  rintro _ w1 ⟨b1, rfl, n1⟩
  refine zst ?_
  refine WU.stp rfl rfl rfl stp_alloc ?_
  rintro _ w2 ⟨b2, rfl, n2⟩
  refine zst ?_
  have ne1 := n1.num
  have ne2 := n2.num
  have sz1 := n1.size
  have sz2 := n2.size
  have ib1 : Has w2 b1 (.cells (tyc t a cp).toArray 26) := n1.has.ext' n2.ext
  refine WU.stp rfl rfl rfl stp_alloc ?_
  rintro _ w3 ⟨b3, rfl, n3⟩
  have ne3 := n3.num
  have sz3 := n3.size
  replace ib1 := ib1.ext' n3.ext
  have ib2 : Has w3 b2 (.cells zT.toArray 26) := n2.has.ext' n3.ext
  refine zst ?_
  refine WU.stp0 rfl rfl (stp_store_whole rfl rfl rfl rfl) ?_
  rintro _ w4 u4
  replace ib1 := u4.keep ib1 (by omega)
  replace ib2 := u4.keep ib2 (by omega)
  have ib3 : Has w4 b3 (.cells (tyc t a cp).toArray 26) := u4.has
  have x4 : Ext w w4 := n1.ext.trans (n2.ext.trans (u4.ofNew n3).ext)
  refine zst ?_
  refine WU.stp0 rfl rfl (stp_store_cell rfl rfl rfl rfl) ?_
  rintro _ w5 u5
  replace ib1 := u5.keep ib1 (by omega)
  replace ib2 := u5.keep ib2 (by omega)
  have x5 : Ext w w5 := u5.ext x4 (by omega)
  refine zst ?_
  refine WU.stp0 rfl rfl (stp_store_cell rfl rfl rfl rfl) ?_
  rintro _ w6 u6
  replace ib1 := u6.keep ib1 (by omega)
  replace ib2 := u6.keep ib2 (by omega)
  replace ib3 : Has w6 b3 (.cells (tyl t.kind t.n t.count t.vr (.slice none 0 0) t.name eB t.emb).toArray 26) := u6.has
  have x6 : Ext w w6 := u6.ext x5 (by omega)
  have su4 := u4.size
  have su5 := u5.size
  have su6 := u6.size
  refine zst ?_
  refine W.loop (σ := Nat × Value) (fun (k, _) => [(12, .int .i64 k), (11, .int .i64 t.elems.length), (10, .slice a t.elems.length cp), (3, pt b3), (2, pt b2)])
    (fun (k, v) D' wr => D' = [] ∧ k ≤ t.elems.length ∧ Ext w wr ∧ ∃ R, Own wr w6.heap.size 26 8 v R ∧ (R.length = k ∧ Rwu wr (nb w6.heap.size wr v) R t.elems) ∧ Has wr b3 (.cells (tyl t.kind t.n t.count t.vr v t.name eB t.emb).toArray 26) ∧ Has wr b2 (.cells zT.toArray 26) ∧ w6.heap.size ≤ wr.heap.size)
    (fun (k, _) => t.elems.length - k) (0, .slice none 0 0) ⟨rfl, Nat.zero_le _, x6, [], Own.nil .., ⟨rfl, fun i r e h => by simp at h⟩, ib3, ib2, Nat.le_refl _⟩ (by exact sub_of ⟨rfl, rfl, rfl, rfl, rfl, trivial⟩) ?_
  rintro ⟨k, v⟩ D' wr ⟨rfl, hk, xr, R, ho, hR, ibx, hres, hbs⟩
  have hsz := xr.size
  have hb3 := ibx.lt
  refine zst ?_
  by_cases hlt : k < t.elems.length
  · rw [show decide ((k : Int) < (t.elems.length : Int)) = true by simpa using hlt]
    have he := List.getElem?_eq_getElem hlt
    generalize t.elems[k] = e at he
    have hwe := wt_el he
    obtain ⟨b, o, a3, c3, rfl, hpb, hc, hte⟩ := ht.next he
    have hc' : Cells wr b (o + k * 8) (tyc e a3 c3) := hc.ext xr
    refine zst ?_
    refine WU.yld rfl rfl rfl (yld_load_cells rfl hc') ?_
    refine WU.stp rfl rfl rfl stp_alloc ?_
    rintro _ w7 ⟨b9, rfl, n7⟩
    refine WU.stp0 rfl rfl (stp_store_whole rfl rfl rfl rfl) ?_
    rintro _ w8 u8
    have x8 : Ext wr w8 := (u8.ofNew n7).ext
    have i8 : Has w8 b9 (.cells (tyc e a3 c3).toArray 26) := u8.has
    have ibx8 := ibx.ext' x8
    have nb9 := n7.num
    clear u8
    refine zst ?_
    obtain ⟨F, hFd⟩ : ∃ F : World → Prop, ∀ W, F W ↔ (Has W b9 (.cells (tyc e a3 c3).toArray 26) ∧ Has W b3 (.cells (tyl t.kind t.n t.count t.vr v t.name eB t.emb).toArray 26)) := ⟨fun W => (Has W b9 (.cells (tyc e a3 c3).toArray 26) ∧ Has W b3 (.cells (tyl t.kind t.n t.count t.vr v t.name eB t.emb).toArray 26)), fun _ => Iff.rfl⟩
    refine W.regR (R := fun a b => F a → F b) (fun _ h => h) (fun _ _ _ h k x => k (h x)) [(0, .q), (1, .q), (2, .q), (3, .l), (4, .l), (5, .l), (6, .q), (7, .z)] (by kernel_rfl) (by kernel_rfl) rfl ?_
    intro w9 x9 _
    have hF : F w9 := (hFd _).2 ⟨i8.ext' x9, ibx8.ext' x9⟩
    (repeat (first
        | refine WR.nilk ?_
        | refine WR.nil ?_
        | refine WR.yld (fun _ h => h) rfl rfl rfl rfl (fun w' hx => by obtain ⟨i1, i2⟩ := (hFd _).1 (hx hF); first | exact zyl | (exact by first | exact yld_load_cells rfl (Cells.has i1) | exact yld_load_cells rfl (Cells.has i2)) | exact yld_indexAddr_arr rfl rfl (by omega)) ?_
        | refine WR.skip rfl rfl rfl rfl ?_))
    refine WR.stp rfl rfl rfl rfl (stp_call rfl (ih (t := e) (by omega) ((hte.ext xr).ext (x8.trans x9)) (fun b hb => by have := hp b hb; have := (x8.trans x9).size; omega) (by omega))) ?_
    rintro _ w10 ⟨⟨a10, c10, rfl, q10⟩, x10⟩
    have hF : F w10 := (hFd _).2 ⟨((hFd _).1 hF).1.ext' x10, ((hFd _).1 hF).2.ext' x10⟩
    refine ⟨fun _ => hF, ?_⟩
    (repeat (first
        | refine WR.nilk ?_
        | refine WR.nil ?_
        | refine WR.yld (fun _ h => h) rfl rfl rfl rfl (fun w' hx => by obtain ⟨i1, i2⟩ := (hFd _).1 (hx hF); first | exact zyl | (exact by first | exact yld_load_cells rfl (Cells.has i1) | exact yld_load_cells rfl (Cells.has i2)) | exact yld_indexAddr_arr rfl rfl (by omega)) ?_
        | refine WR.skip rfl rfl rfl rfl ?_))
    refine WR.stp rfl rfl rfl rfl (stp_buildSlice rfl rfl rfl rfl rfl) ?_
    rintro _ w11 ⟨b11, rfl, n11⟩
    have hF : F w11 := (hFd _).2 ⟨((hFd _).1 hF).1.ext' n11.ext, ((hFd _).1 hF).2.ext' n11.ext⟩
    refine ⟨fun _ => hF, ?_⟩
    (repeat (first
        | refine WR.nilk ?_
        | refine WR.nil ?_
        | refine WR.yld (fun _ h => h) rfl rfl rfl rfl (fun w' hx => by obtain ⟨i1, i2⟩ := (hFd _).1 (hx hF); first | exact zyl | (exact by first | exact yld_load_cells rfl (Cells.has i1) | exact yld_load_cells rfl (Cells.has i2)) | exact yld_indexAddr_arr rfl rfl (by omega)) ?_
        | refine WR.skip rfl rfl rfl rfl ?_))
    have s9 := (x8.trans x9).size
    have s10 := x10.size
    have xt := (x8.trans x9).trans (x10.trans n11.ext)
    have ho11 := ho.ext xt
    have s11 := n11.ext.size
    have st := xt.size
    have i11 : Has w11 b11 (.cells (tyc (unt e) a10 c10).toArray 26) := n11.has
    refine WR.stp rfl rfl rfl rfl (stp_append1 (el := 26) rfl rfl ho11 (Cells.has i11) rfl rfl (by omega) (by simp [Value.oneCell']) (by have := hR.1; omega) (by omega)) ?_
    rintro v' w12 ⟨o12, a12, g12⟩
    have hF : F w12 := by
      obtain ⟨i1, i2⟩ := (hFd _).1 hF
      exact (hFd _).2 ⟨a12.keep i1 fun g hg => by have := ho.lt g hg; omega, a12.keep i2 fun g hg => by have := ho.lt g hg; omega⟩
    refine ⟨fun _ => hF, ?_⟩
    (repeat (first
        | refine WR.nilk ?_
        | refine WR.nil ?_
        | refine WR.yld (fun _ h => h) rfl rfl rfl rfl (fun w' hx => by obtain ⟨i1, i2⟩ := (hFd _).1 (hx hF); first | exact zyl | (exact by first | exact yld_load_cells rfl (Cells.has i1) | exact yld_load_cells rfl (Cells.has i2)) | exact yld_indexAddr_arr rfl rfl (by omega)) ?_
        | refine WR.skip rfl rfl rfl rfl ?_))
    have jbx := ((hFd _).1 hF).2
    refine WR.last0 rfl rfl rfl (stp_store_cell rfl rfl rfl (by obtain ⟨a', cp', e', _⟩ := o12.shape; rw [e']; rfl)) ?_
    rintro _ w13 u13
    (repeat (first
        | refine WR.nilk ?_
        | refine WR.nil ?_
        | refine WR.yld (fun _ h => h) rfl rfl rfl rfl (fun w' hx => by obtain ⟨i1, i2⟩ := (hFd _).1 (hx hF); first | exact zyl | (exact by first | exact yld_load_cells rfl (Cells.has i1) | exact yld_load_cells rfl (Cells.has i2)) | exact yld_indexAddr_arr rfl rfl (by omega)) ?_
        | refine WR.skip rfl rfl rfl rfl ?_))
    refine zst ?_
    have s12 := a12.size
    have s13 := u13.size
    have y12 := a12.ext ho11 (xr.trans xt) (by omega)
    have y13 := u13.ext y12 (by omega)
    have hnew : TyV w13 (nb w6.heap.size w13 v') (tyc (unt e) a10 c10) (unt e) := by
      refine (((TyV.of_tys (t := unt e) (q10.ext n11.ext)).app a12 fun b hb => ⟨by omega, fun hg => by have := ho.lt b hg; omega⟩).upd u13 fun hb => by omega).mono fun b hb => ⟨by omega, by omega, fun hg => ?_⟩
      rcases g12 b hg with h | h
      · have := ho.lt b h; omega
      · omega
    have hold : Rwu w13 (nb w6.heap.size w13 v') R t.elems := fun i r e' h1 h2 => by
      refine ((((hR.2 i r e' h1 h2).ext xt).app a12 fun b hb => ⟨by have := hb.2.1; omega, hb.2.2⟩).upd u13 fun hb => by have := hb.1; omega).mono fun b hb => ⟨hb.1, by have := hb.2.1; omega, fun hg => ?_⟩
      rcases g12 b hg with h | h
      · exact hb.2.2 h
      · have := hb.2.1; omega
    refine ⟨(k + 1, v'), by show t.elems.length - (k + 1) < t.elems.length - k; omega, ⟨rfl, by omega, y13, R ++ [tyc (unt e) a10 c10], o12.upd u13 (fun g hg => by have := o12.lt g hg; omega), ⟨by rw [List.length_append, hR.1]; rfl, rwg_snoc hR.1 hold he hnew⟩, u13.has, u13.keep (a12.keep (hres.ext' xt) fun g hg => by have := ho.lt g hg; omega) (by omega), by omega⟩, sub_of ⟨rfl, rfl, rfl, rfl, rfl, trivial⟩⟩
  · rw [show decide ((k : Int) < (t.elems.length : Int)) = false by simpa using hlt]
    obtain ⟨a', cp', rfl, h1⟩ := own_tyu ho (by rw [hR.1]; omega) hR.2
    refine zst ?_
    refine WU.stp0 rfl rfl (stp_store_whole rfl rfl rfl rfl) ?_
    rintro _ w9 u9
    refine zst ?_
    have x9 := u9.ext xr (by omega)
    refine finc (.inl rfl) rfl rfl ⟨⟨a', cp', by rw [tyc_unt], ?_⟩, x9⟩
    rw [unt_elems]
    exact (h1.upd u9 (fun hq => by omega)).mono fun b hb => ⟨by omega, by have := u9.size; omega⟩
theorem t_untagged {t : Ty} {v : Value} {w : World} (h : TvV w v t) (hw : wt t ≤ 16777216) : Calls Tryz.prog 16 #[v] w (Ret (Mu w t)) := by
  obtain ⟨a, c, rfl, ht⟩ := h.ex
  exact n_untagged _ (Nat.le_refl _) ht (fun b hb => hb) hw
/-- impl.Identical over other declarations -/
theorem t_IdU {D : List De} {t u : Ty} {x y : X} {a : Option Addr} {cp n m k : Nat} {v1 v2 : Value} {w : World} (hk : D.length = k) (lw : LW D a cp w) (hV : ValidD D) (hwd : wtD D ≤ 1048576) (h1 : TvV w v1 t) (h2 : TvV w v2 u) (g1 : VX D n t x) (g2 : VX D m u y) (hn : n ≤ 16777216) (hm : m ≤ 16777216) :
    Calls Tryz.prog 15 #[.slice a k cp, v1, v2] w (Ret fun r w' => r = .bool (idX true x y) ∧ Ext w w') := by
  subst hk
  exact t_Id lw hV hwd h1 h2 g1 g2 hn hm
theorem VX.unt {D : List De} (hV : ValidD D) {n : Nat} {t : Ty} {x : X} (h : VX D n t x) (hwd : wtD D ≤ 1048576) (hn : n ≤ 16777216) : VX (untD D) n (Go.Proofs.YtlemfkbhcleopaaGreatDoor.unt t) (unX x) :=
  .of (okD (validD_unt hV) (Nat.le_trans (wtD_unt D) hwd)) (validD_unt hV) (valid_unt h.vt) (Nat.le_trans (wt_unt t) h.wt) hn (exp_unt h.ex)
theorem wtD_at {D : List De} {n i : Nat} {e : De} (h : wtD D ≤ n) (he : D[i]? = some e) : wt e.ty ≤ n ∧ e.ms.length ≤ n ∧ ∀ m ∈ e.ms, wt m.fn ≤ n := by
  have h1 := wtD_mem' (List.mem_of_getElem? he)
  unfold wtDe at h1
  have key : ∀ l : List Me, l.length ≤ wtM l ∧ ∀ m ∈ l, wt m.fn ≤ wtM l := fun l => by
    induction l with
    | nil => exact ⟨Nat.zero_le _, fun m hm => by cases hm⟩
    | cons a r ih =>
      have h2 : wtM (a :: r) = wt a.fn + wtM r := by simp [wtM]
      have h3 := wt_pos a.fn
      refine ⟨by rw [List.length_cons]; omega, fun m hm => ?_⟩
      rcases List.mem_cons.1 hm with rfl | hm
      · omega
      · have := ih.2 m hm; omega
  refine ⟨by omega, by have := (key e.ms).1; omega, fun m hm => ?_⟩
  have := (key e.ms).2 m hm
  omega
end Go.Proofs.YtlemfkbhcleopaaGreatDoor.Law
namespace Go.Proofs.YtlemfkbhcleopaaGreatDoor
open Go Go.Kd
set_option maxRecDepth 100000

theorem c_gIdenticalT {K : Cfg} {s : Gs} {w : World} {vx vy : Value} {tx ty : Ty} {x y : X} (ic : IC K s w) (hx : TX K s w vx tx x) (hy : TX K s w vy ty y) : Calls Tryz.prog 39 #[vx, vy] w (Ret fun r w' => r = .bool (idX false x y) ∧ Ext w w') := by
  refine W.enter (args := [vx, vy]) Tryz.func39 rfl Tryz.ntmps39 rfl rfl ?_
  refine zst ?_
  refine WU.stp rfl rfl rfl stp_alloc ?_
  rintro _ w1 ⟨cb, rfl, n1⟩
  refine zst ?_
  refine WU.stp0 rfl rfl (stp_store_cell rfl rfl rfl rfl) ?_
  rintro _ w2 u2
  have hcb : Has w2 cb (.cells (cmc true) tCM) := u2.has
  have x2 : Ext w w2 := u2.ext n1.ext (Nat.le_of_eq n1.num.symm)
  refine zst ?_
  refine WU.stp rfl rfl rfl (stp_call rfl (c_identical (K := K) (s := s) (cb := cb) (ign := true) _ x (Nat.lt_succ_self _) w2 vx vy tx ty y none (ic.ext x2) hcb (hx.ext x2) (hy.ext x2) (.nil _ _))) ?_
  rintro _ w3 ⟨rfl, x3⟩
  refine zst ?_
  exact fin1 (.inl rfl) rfl rfl ⟨rfl, x2.trans x3⟩
set_option maxHeartbeats 2000000 in
theorem c_iIdenticalT {D : List De} {t u : Ty} {x y : X} {a : Option Addr} {cp : Nat} {a1 a2 : Option Addr} {c1 c2 : Nat} {w : World} (hp : Prp w) (hV : ValidD D) (hT : ValidT D t) (hU : ValidT D u) (hwd : wtD D ≤ 16777216) (hwt : wt t ≤ 16777216) (hwu : wt u ≤ 16777216) (hx : Exp D t x) (hy : Exp D u y)
    (hd : DsV w (fun b => b < w.heap.size) (.slice a D.length cp) D) (ht : TysV w (fun b => b < w.heap.size) a1 c1 t.elems) (hu : TysV w (fun b => b < w.heap.size) a2 c2 u.elems) :
    Calls Tryz.prog 13 #[.slice a D.length cp, .agg (tyc t a1 c1).toArray, .agg (tyc u a2 c2).toArray] w (Ret fun r w' => r = .bool (idX false x y) ∧ WfX x ∧ WfX y ∧ Ext w w') := by
  refine W.enter (args := [.slice a D.length cp, .agg (tyc t a1 c1).toArray, .agg (tyc u a2 c2).toArray]) Tryz.func13 rfl Tryz.ntmps13 rfl rfl ?_
  refine zst ?_
  refine WU.stp rfl rfl rfl (by first | exact stp_box rfl rfl | exact stp_box1 rfl rfl) ?_
  rintro _ w1 ⟨b4, rfl, n1⟩
  refine zst ?_
  have ib4 : Has w1 b4 (.cells (tyc t a1 c1).toArray 26) := n1.has
  refine WU.stp rfl rfl rfl (by first | exact stp_box rfl rfl | exact stp_box1 rfl rfl) ?_
  rintro _ w2 ⟨b5, rfl, n2⟩
  have ib5 : Has w2 b5 (.cells (tyc u a2 c2).toArray 26) := n2.has
  have x02 := n1.ext.trans n2.ext
  have z02 := x02.size
  have jb4 := ib4.ext' n2.ext
  refine zst ?_
  refine WU.stp rfl rfl rfl (stp_call rfl (c_build' (hp.ext x02) hV hwd (hd.ext x02) fun b hb => by omega)) ?_
  rintro _ w3 ⟨K, s, bb, rfl, rfl, hKN, x3, hB⟩
  have z3 := x3.size
  refine zst ?_
  obtain ⟨F, hFd⟩ : ∃ F : World → Prop, ∀ W, F W ↔ (Has W b4 (.cells (tyc t a1 c1).toArray 26) ∧ Has W b5 (.cells (tyc u a2 c2).toArray 26)) := ⟨fun W => (Has W b4 (.cells (tyc t a1 c1).toArray 26) ∧ Has W b5 (.cells (tyc u a2 c2).toArray 26)), fun _ => Iff.rfl⟩
  refine W.regR (R := fun a b => F a → F b) (fun _ h => h) (fun _ _ _ h k x => k (h x)) [(0, .q), (1, .q), (3, .q), (4, .q), (2, .l), (5, .l), (6, .l), (7, .q)] (by kernel_rfl) (by kernel_rfl) rfl ?_
  intro w4 x4 _
  have x24 := x3.trans x4
  have hF : F w4 := (hFd _).2 ⟨jb4.ext' x24, ib5.ext' x24⟩
  have hB4 := hB.ext x4
  have z4 := x4.size
  (repeat (first
      | refine WR.nilk ?_
      | refine WR.nil ?_
      | refine WR.yld (fun _ h => h) rfl rfl rfl rfl (fun w' hx => by obtain ⟨i1, i2⟩ := (hFd _).1 (hx hF); first | exact zyl | (exact by first | exact yld_load_cells rfl (Cells.has i1) | exact yld_load_cells rfl (Cells.has i2)) | exact yld_indexAddr_arr rfl rfl (by omega)) ?_
      | refine WR.skip rfl rfl rfl rfl ?_))
  refine WR.stp rfl rfl rfl rfl (stp_call rfl (c_of hB4 (p := fun b => b < w.heap.size) (cs := tyc t a1 c1) (t := t) ((TyV.of_tys ht).ext (x02.trans x24)) (fun b hb => ⟨by omega, by omega⟩) ⟨true, hT.sh⟩ hT.lg (by show _ ≤ 268435456; omega))) ?_
  rintro _ w5 ⟨s5, hg5, st5, hB5, rt5, T5, rb5, rfl⟩
  have hF : F w5 := (hFd _).2 ⟨Has.sta st5 ((hFd _).1 hF).1, Has.sta st5 ((hFd _).1 hF).2⟩
  refine ⟨fun _ => hF, ?_⟩
  (repeat (first
      | refine WR.nilk ?_
      | refine WR.nil ?_
      | refine WR.yld (fun _ h => h) rfl rfl rfl rfl (fun w' hx => by obtain ⟨i1, i2⟩ := (hFd _).1 (hx hF); first | exact zyl | (exact by first | exact yld_load_cells rfl (Cells.has i1) | exact yld_load_cells rfl (Cells.has i2)) | exact yld_indexAddr_arr rfl rfl (by omega)) ?_
      | refine WR.skip rfl rfl rfl rfl ?_))
  have x25 : Ext w2 w5 := ext_sta x24 (by omega) st5
  have z5 := x25.size
  refine WR.stp rfl rfl rfl rfl (stp_call rfl (c_of hB5 (p := fun b => b < w.heap.size) (cs := tyc u a2 c2) (t := u) ((TyV.of_tys hu).ext (x02.trans x25)) (fun b hb => ⟨by omega, by omega⟩) ⟨true, hU.sh⟩ hU.lg (by show _ ≤ 268435456; omega))) ?_
  rintro _ w6 ⟨s6, hg6, st6, hB6, rt6, T6, rb6, rfl⟩
  have hF : F w6 := (hFd _).2 ⟨Has.sta st6 ((hFd _).1 hF).1, Has.sta st6 ((hFd _).1 hF).2⟩
  refine ⟨fun _ => hF, ?_⟩
  (repeat (first
      | refine WR.nilk ?_
      | refine WR.nil ?_
      | refine WR.yld (fun _ h => h) rfl rfl rfl rfl (fun w' hx => by obtain ⟨i1, i2⟩ := (hFd _).1 (hx hF); first | exact zyl | (exact by first | exact yld_load_cells rfl (Cells.has i1) | exact yld_load_cells rfl (Cells.has i2)) | exact yld_indexAddr_arr rfl rfl (by omega)) ?_
      | refine WR.skip rfl rfl rfl rfl ?_))
  have rt5' := RT.gle hg6 (rt5.sta st6 (by omega))
  have x26 : Ext w2 w6 := ext_sta x25 (by omega) st6
  have tx1 := TX.of hB6.ic rt5' ⟨⟨_, _, Nat.le_refl _, hT.sh⟩, hwt⟩ hT.lg hx
  have tx2 := TX.of hB6.ic rt6 ⟨⟨_, _, Nat.le_refl _, hU.sh⟩, hwu⟩ hU.lg hy
  refine WR.stp rfl rfl rfl rfl (stp_call rfl (c_gIdenticalT hB6.ic tx1 tx2)) ?_
  rintro _ w7 ⟨rfl, x7⟩
  have hF : F w7 := (hFd _).2 ⟨((hFd _).1 hF).1.ext' x7, ((hFd _).1 hF).2.ext' x7⟩
  refine ⟨fun _ => hF, ?_⟩
  (repeat (first
      | refine WR.nilk ?_
      | refine WR.nil ?_
      | refine WR.yld (fun _ h => h) rfl rfl rfl rfl (fun w' hx => by obtain ⟨i1, i2⟩ := (hFd _).1 (hx hF); first | exact zyl | (exact by first | exact yld_load_cells rfl (Cells.has i1) | exact yld_load_cells rfl (Cells.has i2)) | exact yld_indexAddr_arr rfl rfl (by omega)) ?_
      | refine WR.skip rfl rfl rfl rfl ?_))
  refine zst ?_
  exact fin1 (.inl rfl) rfl rfl ⟨rfl, tx1.rt.wfx hB6.ic x _ _ tx1.rd tx1.gd hx, tx2.rt.wfx hB6.ic y _ _ tx2.rd tx2.gd hy, (x02.trans x26).trans x7⟩
end Go.Proofs.YtlemfkbhcleopaaGreatDoor
namespace Go.Proofs.YtlemfkbhcleopaaGreatDoor.Law
open Go Go.Kd
/-- impl.IdenticalIgnoreTags of two types -/
theorem t_IdT {D : List De} {t u : Ty} {x y : X} {a : Option Addr} {cp n m : Nat} {v1 v2 : Value} {w : World} (lw : LW D a cp w) (hV : ValidD D) (hwd : wtD D ≤ 1048576) (h1 : TvV w v1 t) (h2 : TvV w v2 u) (g1 : VX D n t x) (g2 : VX D m u y) (hn : n ≤ 16777216) (hm : m ≤ 16777216) :
    Calls Tryz.prog 13 #[.slice a D.length cp, v1, v2] w (Ret fun r w' => r = .bool (idX false x y) ∧ Ext w w') := by
  obtain ⟨a1, c1, rfl, ht⟩ := h1.ex
  obtain ⟨a2, c2, rfl, hu⟩ := h2.ex
  exact (c_iIdenticalT lw.hp hV g1.vt g2.vt (by omega) (Nat.le_trans g1.wt hn) (Nat.le_trans g2.wt hm) g1.ex g2.ex lw.hd ht hu).mono fun e w' ⟨r, he, h, _, _, x⟩ => ⟨r, he, h, x⟩
end Go.Proofs.YtlemfkbhcleopaaGreatDoor.Law
namespace Go.Proofs.YtlemfkbhcleopaaGreatDoor.Law
open Go Go.Kd
set_option maxRecDepth 100000

set_option maxHeartbeats 2000000 in
theorem c_FnTagsRemoved {D : List De} {a : Option Addr} {cp : Nat} {t1 : Ty} {a1 : Option Addr} {c1 : Nat} {t2 : Ty} {a2 : Option Addr} {c2 : Nat} {w : World} (hp : Prp w) (hwd : wtD D ≤ 1048576) (hw1 : wt t1 ≤ 1048576) (hw2 : wt t2 ≤ 1048576) (hd : DsV w (fun b => b < w.heap.size) (.slice a D.length cp) D) (ht1 : TysV w (fun b => b < w.heap.size) a1 c1 t1.elems) (ht2 : TysV w (fun b => b < w.heap.size) a2 c2 t2.elems) :
    Calls Tryz.prog 7 #[.slice a D.length cp, .agg (tyc t1 a1 c1).toArray, .agg (tyc t2 a2 c2).toArray] w (Ret fun r w' => r = .bool true ∧ Ext w w') := by
  have hDl : D.length ≤ 16777216 := by have := len_wtD D; omega
  have lw : LW D a cp w := ⟨hp, hd⟩
  have T1 : TvV w (.agg (tyc t1 a1 c1).toArray) t1 := ⟨⟨_, _, rfl, ht1⟩⟩
  have T2 : TvV w (.agg (tyc t2 a2 c2).toArray) t2 := ⟨⟨_, _, rfl, ht2⟩⟩
  have x0 : Ext w w := Ext.rfl' w
  refine W.enter (args := [.slice a D.length cp, .agg (tyc t1 a1 c1).toArray, .agg (tyc t2 a2 c2).toArray]) Tryz.func7 rfl Tryz.ntmps7 rfl rfl ?_
  refine zst ?_
  refine WU.stp rfl rfl rfl (by first | exact stp_box rfl rfl | exact stp_box1 rfl rfl) ?_
  rintro _ w1 ⟨b1, rfl, n1⟩
  replace lw := lw.ext n1.ext
  replace T1 := T1.ext n1.ext
  replace T2 := T2.ext n1.ext
  replace x0 := x0.trans n1.ext
  have ib1 : Has w1 b1 (.cells (tyc t1 a1 c1).toArray 26) := n1.has
  refine zst ?_
  refine WU.stp rfl rfl rfl (by first | exact stp_box rfl rfl | exact stp_box1 rfl rfl) ?_
  rintro _ w2 ⟨b2, rfl, n2⟩
  replace lw := lw.ext n2.ext
  replace T1 := T1.ext n2.ext
  replace T2 := T2.ext n2.ext
  replace ib1 := ib1.ext' n2.ext
  replace x0 := x0.trans n2.ext
  have ib2 : Has w2 b2 (.cells (tyc t2 a2 c2).toArray 26) := n2.has
  refine zst ?_
  rw [show decide ((2147483647 : Int) < (D.length : Int)) = false by simp; omega]
  refine zst ?_
  refine WU.stp rfl rfl rfl (stp_call rfl (c_zzFits1 t1 a1 c1 _ (by omega))) ?_
  rintro _ w3 ⟨rfl, x3⟩
  replace lw := lw.ext x3
  replace T1 := T1.ext x3
  replace T2 := T2.ext x3
  replace ib1 := ib1.ext' x3
  replace ib2 := ib2.ext' x3
  replace x0 := x0.trans x3
  refine zst ?_
  refine WU.stp rfl rfl rfl (stp_call rfl (c_zzFits1 t2 a2 c2 _ (by omega))) ?_
  rintro _ w4 ⟨rfl, x4⟩
  replace lw := lw.ext x4
  replace T1 := T1.ext x4
  replace T2 := T2.ext x4
  replace ib1 := ib1.ext' x4
  replace ib2 := ib2.ext' x4
  replace x0 := x0.trans x4
  refine zst ?_
  refine WU.stp rfl rfl rfl (stp_buildSlice rfl rfl rfl rfl rfl) ?_
  rintro _ w5 ⟨r5, rfl, n5⟩
  replace lw := lw.ext n5.ext
  replace T1 := T1.ext n5.ext
  replace T2 := T2.ext n5.ext
  replace ib1 := ib1.ext' n5.ext
  replace ib2 := ib2.ext' n5.ext
  replace x0 := x0.trans n5.ext
  have hr : Has w5 r5 (.cells (tyc t1 a1 c1 ++ tyc t2 a2 c2).toArray 26) := n5.has
  refine zst ?_
  refine WU.stp rfl rfl rfl (stp_call rfl (t_Valid2 lw hwd hr rfl rfl T1 T2 (by omega) (by omega))) ?_
  rintro _ w6 ⟨v, rfl, hv, x6⟩
  replace lw := lw.ext x6
  replace T1 := T1.ext x6
  replace T2 := T2.ext x6
  replace ib1 := ib1.ext' x6
  replace ib2 := ib2.ext' x6
  replace x0 := x0.trans x6
  cases v with
  | false =>
    refine zst ?_
    exact fin1 (.inl rfl) rfl rfl ⟨rfl, x0⟩
  | true =>
    obtain ⟨hV, hT, hU⟩ := hv rfl
    have hok := okD hV hwd
    obtain ⟨x, V⟩ := VX.ofT hok hV (n := 1048576) hT hw1 (by decide)
    obtain ⟨y, U⟩ := VX.ofT hok hV (n := 1048576) hU hw2 (by decide)
    refine zst ?_
    have lwS := lw
    have x0S := x0
    refine W.loop (σ := Nat × Value) (fun (k, v) => [(34, .int .i64 k), (33, .int .i64 D.length), (32, .slice a D.length cp), (7, v), (0, .slice a D.length cp), (4, pt b1), (5, pt b2), (6, .bool false)])
      (fun (k, v) D' wr => D' = [] ∧ k ≤ D.length ∧ Ext w6 wr ∧ ∃ R, Own wr w6.heap.size 34 12 v R ∧ R.length = k ∧ Rwg (fun r e => DeV wr (nb w6.heap.size wr v) r (untE e)) R D)
      (fun (k, _) => D.length - k) (0, .slice none 0 0) ⟨rfl, Nat.zero_le _, Ext.rfl' _, [], Own.nil .., rfl, fun i r e h => by simp at h⟩ (by exact sub_of ⟨rfl, rfl, rfl, rfl, rfl, rfl, rfl, rfl, trivial⟩) ?_
    rintro ⟨k, v⟩ D' wr ⟨rfl, hk, xr, R, ho, hR1, hR⟩
    have hbs := xr.size
    refine zst ?_
    by_cases hlt : k < D.length
    · rw [show decide ((k : Int) < (D.length : Int)) = true by simpa using hlt]
      have he := List.getElem?_eq_getElem hlt
      generalize D[k] = e at he
      have hwe : wt e.ty ≤ 1048576 ∧ e.ms.length ≤ 1048576 ∧ ∀ m ∈ e.ms, wt m.fn ≤ 1048576 := wtD_at hwd he
      obtain ⟨b, o, a3, c3, a4, c4, f, rfl, hpb, hc, hte, hms, hmv⟩ := lw.hd.next he
      have hc' : Cells wr b (o + k * 12) (del e a3 c3 a4 c4) := hc.ext xr
      refine zst ?_
      refine WU.yld rfl rfl rfl (yld_load_cells rfl hc') ?_
      refine WU.stp rfl rfl rfl stp_alloc ?_
      rintro _ w20 ⟨b9, rfl, n20⟩
      refine WU.stp0 rfl rfl (stp_store_whole rfl rfl rfl rfl) ?_
      rintro _ w21 u21
      have x21 : Ext wr w21 := (u21.ofNew n20).ext
      have i9 : Has w21 b9 (.cells (del e a3 c3 a4 c4).toArray 34) := u21.has
      have hb9 := n20.num
      clear u21 n20
      refine zst ?_
      refine W.loop (σ := Nat × Value) (fun (k', v') => [(41, .int .i64 k'), (40, .int .i64 e.ms.length), (39, .slice a4 e.ms.length c4), (10, v'), (9, pt b9), (34, .int .i64 k), (33, .int .i64 D.length), (32, .slice (some ⟨b, o, none⟩) D.length cp), (7, v), (0, .slice (some ⟨b, o, none⟩) D.length cp), (4, pt b1), (5, pt b2), (6, .bool false)])
        (fun (k', v') D' wq => D' = [] ∧ k' ≤ e.ms.length ∧ Ext w21 wq ∧ ∃ R', Own wq w21.heap.size 36 9 v' R' ∧ R'.length = k' ∧ Rwg (fun r m => MeV wq (nb w21.heap.size wq v') r ⟨m.ptr, unt m.fn⟩) R' e.ms)
        (fun (k', _) => e.ms.length - k') (0, .slice none 0 0) ⟨rfl, Nat.zero_le _, Ext.rfl' _, [], Own.nil .., rfl, fun i r e h => by simp at h⟩ (by exact sub_of ⟨rfl, rfl, rfl, rfl, rfl, rfl, rfl, rfl, rfl, rfl, rfl, rfl, rfl, trivial⟩) ?_
      rintro ⟨k', v'⟩ D' wq ⟨rfl, hk', xq, R', hoq, hq1, hRq⟩
      have hbq := xq.size
      have hb21 := x21.size
      refine zst ?_
      by_cases hlm : k' < e.ms.length
      · rw [show decide ((k' : Int) < (e.ms.length : Int)) = true by simpa using hlm]
        have hm := List.getElem?_eq_getElem hlm
        generalize e.ms[k'] = m at hm
        have hwm := hwe.2.2 m (List.mem_of_getElem? hm)
        obtain ⟨bm, om, rfl, hpm, hcm⟩ := hms k' hlm
        obtain ⟨ts, hts, htm⟩ := hmv k' m hm
        obtain ⟨a5, c5, rfl, hem⟩ := htm.tys
        have y0 := (xr.trans x21).trans xq
        have hcm' : Cells wq bm (om + k' * 9) (.bool m.ptr :: tyc m.fn a5 c5) := by rw [← hts]; exact hcm.ext y0
        refine zst ?_
        refine WU.yld rfl rfl rfl (yld_load_cells (l := .bool m.ptr :: tyc m.fn a5 c5) rfl hcm') ?_
        refine WU.stp rfl rfl rfl stp_alloc ?_
        rintro _ w22 ⟨b12, rfl, n22⟩
        refine WU.stp0 rfl rfl (stp_store_whole rfl rfl rfl rfl) ?_
        rintro _ w23 u23
        have x23 : Ext wq w23 := (u23.ofNew n22).ext
        have i12 : Has w23 b12 (.cells (.bool m.ptr :: tyc m.fn a5 c5).toArray 36) := u23.has
        have hb12 := n22.num
        clear u23
        refine zst ?_
        obtain ⟨F, hFd⟩ : ∃ F : World → Prop, ∀ W, F W ↔ (Has W b12 (.cells (.bool m.ptr :: tyc m.fn a5 c5).toArray 36)) := ⟨fun W => (Has W b12 (.cells (.bool m.ptr :: tyc m.fn a5 c5).toArray 36)), fun _ => Iff.rfl⟩
        refine W.regR (R := fun a b => F a → F b) (fun _ h => h) (fun _ _ _ h k x => k (h x)) [(0, .q), (1, .q), (2, .q), (3, .q), (4, .q), (5, .l), (6, .q), (7, .l), (8, .l), (9, .q)] (by kernel_rfl) (by kernel_rfl) rfl ?_
        intro w24 x24 _
        have hF : F w24 := (hFd _).2 (i12.ext' x24)
        (repeat (first
            | refine WR.nilk ?_
            | refine WR.nil ?_
            | refine WR.yld (fun _ h => h) rfl rfl rfl rfl (fun w' hx => by obtain i1 := (hFd _).1 (hx hF); first | exact zyl | (exact yld_load_cells rfl (Cells.me_of (Cells.has i1))) | exact yld_indexAddr_arr rfl rfl (by omega)) ?_
            | refine WR.skip rfl rfl rfl rfl ?_))
        refine WR.stp rfl rfl rfl rfl (stp_call rfl (t_untagged (t := m.fn) ⟨⟨a5, c5, rfl, ((hem.ext y0).ext (x23.trans x24)).mono fun b hb => by have := y0.size; have := (x23.trans x24).size; omega⟩⟩ (by omega))) ?_
        rintro _ w25 ⟨⟨⟨a6, c6, rfl, q6⟩⟩, x25⟩
        have hF : F w25 := (hFd _).2 (((hFd _).1 hF).ext' x25)
        refine ⟨fun _ => hF, ?_⟩
        (repeat (first
            | refine WR.nilk ?_
            | refine WR.nil ?_
            | refine WR.yld (fun _ h => h) rfl rfl rfl rfl (fun w' hx => by obtain i1 := (hFd _).1 (hx hF); first | exact zyl | (exact yld_load_cells rfl (Cells.me_of (Cells.has i1))) | exact yld_indexAddr_arr rfl rfl (by omega)) ?_
            | refine WR.skip rfl rfl rfl rfl ?_))
        refine WR.stp rfl rfl rfl rfl (stp_buildSlice rfl rfl rfl rfl rfl) ?_
        rintro _ w26 ⟨b26, rfl, n26⟩
        have hF : F w26 := (hFd _).2 (((hFd _).1 hF).ext' n26.ext)
        refine ⟨fun _ => hF, ?_⟩
        (repeat (first
            | refine WR.nilk ?_
            | refine WR.nil ?_
            | refine WR.yld (fun _ h => h) rfl rfl rfl rfl (fun w' hx => by obtain i1 := (hFd _).1 (hx hF); first | exact zyl | (exact yld_load_cells rfl (Cells.me_of (Cells.has i1))) | exact yld_indexAddr_arr rfl rfl (by omega)) ?_
            | refine WR.skip rfl rfl rfl rfl ?_))
        have xt := (x23.trans x24).trans (x25.trans n26.ext)
        have s24 := (x23.trans x24).size
        have s25 := x25.size
        have s26 := n26.ext.size
        have st := xt.size
        have ho26 := hoq.ext xt
        have i26 : Has w26 b26 (.cells (.bool m.ptr :: tyc (unt m.fn) a6 c6).toArray 36) := n26.has
        refine WR.stp rfl rfl rfl rfl (stp_append1 (el := 36) rfl rfl ho26 (Cells.has i26) rfl rfl (by omega) (by simp [Value.oneCell']) (by omega) (by omega)) ?_
        rintro v'' w27 ⟨o27, a27, g27⟩
        have hF : F w27 := (hFd _).2 (a27.keep ((hFd _).1 hF) fun g hg => by have := hoq.lt g hg; omega)
        refine ⟨fun _ => hF, ?_⟩
        (repeat (first
            | refine WR.nilk ?_
            | refine WR.nil ?_
            | refine WR.yld (fun _ h => h) rfl rfl rfl rfl (fun w' hx => by obtain i1 := (hFd _).1 (hx hF); first | exact zyl | (exact yld_load_cells rfl (Cells.me_of (Cells.has i1))) | exact yld_indexAddr_arr rfl rfl (by omega)) ?_
            | refine WR.skip rfl rfl rfl rfl ?_))
        refine zst ?_
        have s27 := a27.size
        have y27 := a27.ext ho26 (xq.trans xt) (by omega)
        have hnew : MeV w27 (nb w21.heap.size w27 v'') (.bool m.ptr :: tyc (unt m.fn) a6 c6) ⟨m.ptr, unt m.fn⟩ := by
          refine ⟨_, rfl, ((TyV.of_tys (t := unt m.fn) (q6.ext n26.ext)).app a27 fun b hb => ⟨by omega, fun hg => by have := hoq.lt b hg; omega⟩).mono fun b hb => ⟨by omega, by omega, fun hg => ?_⟩⟩
          rcases g27 b hg with h | h
          · have := hoq.lt b h; omega
          · omega
        have hold : Rwg (fun r m => MeV w27 (nb w21.heap.size w27 v'') r ⟨m.ptr, unt m.fn⟩) R' e.ms := fun i r m' h1 h2 => by
          refine ((MeV.ext xt (hRq i r m' h1 h2)).app a27 fun b hb => ⟨by have := hb.2.1; omega, hb.2.2⟩).mono fun b hb => ⟨hb.1, by have := hb.2.1; omega, fun hg => ?_⟩
          rcases g27 b hg with h | h
          · exact hb.2.2 h
          · have := hb.2.1; omega
        exact ⟨(k' + 1, v''), by show e.ms.length - (k' + 1) < e.ms.length - k'; omega, ⟨rfl, by omega, y27, R' ++ [.bool m.ptr :: tyc (unt m.fn) a6 c6], o27, by rw [List.length_append, hq1]; rfl, rwg_snoc hq1 hold hm hnew⟩, sub_of ⟨rfl, rfl, rfl, rfl, rfl, rfl, rfl, rfl, rfl, rfl, rfl, rfl, rfl, trivial⟩⟩
      · rw [show decide ((k' : Int) < (e.ms.length : Int)) = false by simpa using hlm]
        obtain ⟨a6, c6, rfl, hle, hs6, hm6⟩ := own_row hoq (by omega) hRq
        have y0 := (xr.trans x21).trans xq
        have i9' := i9.ext' xq
        refine zst ?_
        obtain ⟨F, hFd⟩ : ∃ F : World → Prop, ∀ W, F W ↔ (Has W b9 (.cells (del e a3 c3 a4 c4).toArray 34)) := ⟨fun W => (Has W b9 (.cells (del e a3 c3 a4 c4).toArray 34)), fun _ => Iff.rfl⟩
        refine W.regR (R := fun a b => F a → F b) (fun _ h => h) (fun _ _ _ h k x => k (h x)) [(0, .q), (1, .q), (2, .q), (3, .q), (4, .q), (5, .q), (6, .q), (7, .q), (8, .q), (10, .q), (9, .l), (11, .q), (12, .l), (13, .l), (14, .q)] (by kernel_rfl) (by kernel_rfl) rfl ?_
        intro w24 x24 _
        have hF : F w24 := (hFd _).2 (i9'.ext' x24)
        (repeat (first
            | refine WR.nilk ?_
            | refine WR.nil ?_
            | refine WR.yld (fun _ h => h) rfl rfl rfl rfl (fun w' hx => by obtain i1 := (hFd _).1 (hx hF); first | exact zyl | (exact yld_load_cells rfl (Cells.ty_of (Cells.has i1))) | exact yld_indexAddr_arr rfl rfl (by omega)) ?_
            | refine WR.skip rfl rfl rfl rfl ?_))
        refine WR.stp rfl rfl rfl rfl (stp_call rfl (t_untagged (t := e.ty) ⟨⟨a3, c3, rfl, ((hte.ext y0).ext x24).mono fun b hb => by have := y0.size; have := x24.size; omega⟩⟩ (by omega))) ?_
        rintro _ w25 ⟨⟨⟨a7, c7, rfl, q7⟩⟩, x25⟩
        have hF : F w25 := (hFd _).2 (((hFd _).1 hF).ext' x25)
        refine ⟨fun _ => hF, ?_⟩
        (repeat (first
            | refine WR.nilk ?_
            | refine WR.nil ?_
            | refine WR.yld (fun _ h => h) rfl rfl rfl rfl (fun w' hx => by obtain i1 := (hFd _).1 (hx hF); first | exact zyl | (exact yld_load_cells rfl (Cells.ty_of (Cells.has i1))) | exact yld_indexAddr_arr rfl rfl (by omega)) ?_
            | refine WR.skip rfl rfl rfl rfl ?_))
        refine WR.stp rfl rfl rfl rfl (stp_buildSlice rfl rfl rfl rfl rfl) ?_
        rintro _ w26 ⟨b26, rfl, n26⟩
        have hF : F w26 := (hFd _).2 (((hFd _).1 hF).ext' n26.ext)
        refine ⟨fun _ => hF, ?_⟩
        (repeat (first
            | refine WR.nilk ?_
            | refine WR.nil ?_
            | refine WR.yld (fun _ h => h) rfl rfl rfl rfl (fun w' hx => by obtain i1 := (hFd _).1 (hx hF); first | exact zyl | (exact yld_load_cells rfl (Cells.ty_of (Cells.has i1))) | exact yld_indexAddr_arr rfl rfl (by omega)) ?_
            | refine WR.skip rfl rfl rfl rfl ?_))
        have xt := x24.trans (x25.trans n26.ext)
        have xu := (x21.trans xq).trans xt
        have s24 := x24.size
        have s25 := x25.size
        have s26 := n26.ext.size
        have st := xt.size
        have su := xu.size
        have ho26 := ho.ext xu
        generalize hrow : (.string e.name :: .int .i64 e.pkg :: .bool e.al :: (tyc (unt e.ty) a7 c7 ++ [.slice a6 e.ms.length c6]) : List Value) = row
        have i26 : Has w26 b26 (.cells row.toArray 34) := by rw [← hrow]; exact n26.has
        refine WR.stp rfl rfl rfl rfl (stp_append1 (el := 34) rfl rfl ho26 (Cells.has i26) (by rw [← hrow]; rfl) rfl (by omega) (by rw [← hrow]; simp [Value.oneCell']) (by omega) (by omega)) ?_
        rintro v'' w27 ⟨o27, a27, g27⟩
        have hF : F w27 := (hFd _).2 (a27.keep ((hFd _).1 hF) fun g hg => by have := ho.lt g hg; omega)
        refine ⟨fun _ => hF, ?_⟩
        (repeat (first
            | refine WR.nilk ?_
            | refine WR.nil ?_
            | refine WR.yld (fun _ h => h) rfl rfl rfl rfl (fun w' hx => by obtain i1 := (hFd _).1 (hx hF); first | exact zyl | (exact yld_load_cells rfl (Cells.ty_of (Cells.has i1))) | exact yld_indexAddr_arr rfl rfl (by omega)) ?_
            | refine WR.skip rfl rfl rfl rfl ?_))
        refine zst ?_
        have s27 := a27.size
        have y27 := a27.ext ho26 (xr.trans xu) (by omega)
        have hnew : DeV w27 (nb w6.heap.size w27 v'') row (untE e) := by
          have h0 : DeV w26 (fun b => w21.heap.size ≤ b ∧ b < w26.heap.size) row (untE e) := by
            refine ⟨tyc (unt e.ty) a7 c7, a6, c6, fun i => R'.getD i [], by rw [← hrow, show (untE e).ms.length = e.ms.length from List.length_map _]; rfl, (TyV.of_tys (t := unt e.ty) (q7.ext n26.ext)).mono fun b hb => by omega, ?_, fun i m' hm' => ?_⟩
            · rw [show (untE e).ms.length = e.ms.length from List.length_map _]
              exact (hs6.ext xt).mono fun b hb => by omega
            · have hm' : (e.ms.map fun m => (⟨m.ptr, unt m.fn⟩ : Me))[i]? = some m' := hm'
              rw [List.getElem?_map, Option.map_eq_some_iff] at hm'
              obtain ⟨m, hq, rfl⟩ := hm'
              exact ((hm6 i m hq).ext xt).mono fun b hb => ⟨hb.1, by have := hb.2.1; omega⟩
          refine (h0.app a27 fun b hb => ⟨hb.2, fun hg => by have := ho.lt b hg; omega⟩).mono fun b hb => ⟨by omega, by omega, fun hg => ?_⟩
          rcases g27 b hg with h | h
          · have := ho.lt b h; omega
          · omega
        have hold : Rwg (fun r e => DeV w27 (nb w6.heap.size w27 v'') r (untE e)) R D := fun i r e' h1 h2 => by
          refine (((hR i r e' h1 h2).ext xu).app a27 fun b hb => ⟨by have := hb.2.1; omega, hb.2.2⟩).mono fun b hb => ⟨hb.1, by have := hb.2.1; omega, fun hg => ?_⟩
          rcases g27 b hg with h | h
          · exact hb.2.2 h
          · have := hb.2.1; omega
        exact ⟨(k + 1, v''), by show D.length - (k + 1) < D.length - k; omega, ⟨rfl, by omega, y27, R ++ [row], o27, by rw [List.length_append, hR1]; rfl, rwg_snoc hR1 hold he hnew⟩, sub_of ⟨rfl, rfl, rfl, rfl, rfl, rfl, rfl, rfl, trivial⟩⟩
    · rw [show decide ((k : Int) < (D.length : Int)) = false by simpa using hlt]
      obtain ⟨a6, c6, rfl, hle, hs6, hm6⟩ := own_row ho (by omega) hR
      replace lw := lw.ext xr
      replace T1 := T1.ext xr
      replace T2 := T2.ext xr
      replace ib1 := ib1.ext' xr
      replace ib2 := ib2.ext' xr
      replace x0 := x0.trans xr
      have lb : LW (untD D) a6 c6 wr := ⟨lw.hp, a6, c6, _, rfl, by rw [untD_len]; exact hs6.mono fun b hb => hb.2, fun i e he => by
        obtain ⟨e0, h1, rfl⟩ := untD_at he
        exact (hm6 i e0 h1).mono fun b hb => hb.2.1⟩
      refine zst ?_
      refine W.regD [(0, .q), (1, .q), (2, .q), (3, .l), (4, .q), (5, .q), (6, .q), (7, .q), (9, .q), (10, .q), (12, .q), (8, .l), (11, .l), (13, .l), (14, .l), (15, .q), (16, .q), (17, .q)] (by kernel_rfl) (by kernel_rfl) rfl ?_
      intro w31 x31 _
      replace lw := lw.ext x31
      replace T1 := T1.ext x31
      replace T2 := T2.ext x31
      replace ib1 := ib1.ext' x31
      replace ib2 := ib2.ext' x31
      replace lb := lb.ext x31
      replace x0 := x0.trans x31
      refine zsd ?_
      refine WD.stp rfl rfl rfl rfl (stp_call rfl (t_IdT lw hV hwd T1 T1 V V (by decide) (by decide))) ?_
      rintro _ w32 ⟨rfl, x32⟩
      refine ⟨by first | assumption | exact Ext.rfl' _ | infer_instance, ?_⟩
      replace lw := lw.ext x32
      replace T1 := T1.ext x32
      replace T2 := T2.ext x32
      replace ib1 := ib1.ext' x32
      replace ib2 := ib2.ext' x32
      replace lb := lb.ext x32
      replace x0 := x0.trans x32
      refine zsd ?_
      rw [idX_refl false _ V.wf]
      refine zsd ?_
      refine WD.stp rfl rfl rfl rfl (stp_call rfl (t_IdT lw hV hwd T1 T2 V U (by decide) (by decide))) ?_
      rintro _ w33 ⟨rfl, x33⟩
      refine ⟨by first | assumption | exact Ext.rfl' _ | infer_instance, ?_⟩
      replace lw := lw.ext x33
      replace T1 := T1.ext x33
      replace T2 := T2.ext x33
      replace ib1 := ib1.ext' x33
      replace ib2 := ib2.ext' x33
      replace lb := lb.ext x33
      replace x0 := x0.trans x33
      refine zsd ?_
      refine WD.stp rfl rfl rfl rfl (stp_call rfl (t_untagged T1 (by omega))) ?_
      rintro v34 w34 ⟨p34, x34⟩
      refine ⟨by first | assumption | exact Ext.rfl' _ | infer_instance, ?_⟩
      replace lw := lw.ext x34
      replace T1 := T1.ext x34
      replace T2 := T2.ext x34
      replace ib1 := ib1.ext' x34
      replace ib2 := ib2.ext' x34
      replace lb := lb.ext x34
      replace x0 := x0.trans x34
      have T3 : TvV w34 v34 (unt t1) := p34.mono fun b hb => hb.2
      refine zsd ?_
      refine WD.stp rfl rfl rfl rfl (stp_call rfl (t_untagged T2 (by omega))) ?_
      rintro v35 w35 ⟨p35, x35⟩
      refine ⟨by first | assumption | exact Ext.rfl' _ | infer_instance, ?_⟩
      replace lw := lw.ext x35
      replace T1 := T1.ext x35
      replace T2 := T2.ext x35
      replace ib1 := ib1.ext' x35
      replace ib2 := ib2.ext' x35
      replace lb := lb.ext x35
      replace T3 := T3.ext x35
      replace x0 := x0.trans x35
      have T4 : TvV w35 v35 (unt t2) := p35.mono fun b hb => hb.2
      refine zsd ?_
      refine WD.stp rfl rfl rfl rfl (stp_call rfl (t_IdU (untD_len D) lb (validD_unt hV) (Nat.le_trans (wtD_unt D) hwd) T3 T4 (V.unt hV hwd (by decide)) (U.unt hV hwd (by decide)) (by decide) (by decide))) ?_
      rintro _ w36 ⟨rfl, x36⟩
      refine ⟨by first | assumption | exact Ext.rfl' _ | infer_instance, ?_⟩
      replace lw := lw.ext x36
      replace T1 := T1.ext x36
      replace T2 := T2.ext x36
      replace ib1 := ib1.ext' x36
      replace ib2 := ib2.ext' x36
      replace lb := lb.ext x36
      replace T3 := T3.ext x36
      replace T4 := T4.ext x36
      replace x0 := x0.trans x36
      rw [idX_unt]
      refine zsd ?_
      refine zst ?_
      exact fin1 (.inl rfl) rfl rfl ⟨by simp, x0⟩
end Go.Proofs.YtlemfkbhcleopaaGreatDoor.Law

/- The walks and the plain laws, part 1. -/
import Derived.Test.YtpiegpegjbmlkaaGreatDoorXf5
namespace Go.Proofs.YtpiegpegjbmlkaaGreatDoor
open Go Go.Kd
set_option maxRecDepth 100000
end Go.Proofs.YtpiegpegjbmlkaaGreatDoor
namespace Go.Proofs.YtpiegpegjbmlkaaGreatDoor
open Go Go.Kd Go.ChangeShapes Go.WideShapes Go.ChangeAt Go.RowKit
set_option maxRecDepth 100000

abbrev theLaid2 : List (String × DataW Unit) := Rows.fnFieldsRow.laid

noncomputable def wit2 (os : Os) : World := World.laidAll Tryz.prog os theLaid2

theorem wit2_fits (os : Os) : (World.holding Tryz.prog os ⟨#[], #[], []⟩).layFits Tryz.prog theLaid2 [] = true := by kernel_rfl
theorem wit2_ifaces (os : Os) : (World.holding Tryz.prog os ⟨#[], #[], []⟩).layIfaces Tryz.prog theLaid2 (World.laidAll Tryz.prog os theLaid2) = true := by kernel_rfl
theorem wit2_laid (os : Os) (args : Array Value) : laidMet Tryz.prog theLaid2 ((wit2 os).forCall (fun _ _ => 0) ⟨#[], args, []⟩).memory :=
  laidMet_laidAll args (wit2_fits os) (wit2_ifaces os)
theorem wit2_shaped (os : Os) (args : Array Value) : ((wit2 os).forCall (fun _ _ => 0) ⟨#[], args, []⟩).Shaped Tryz.prog :=
  World.shaped_of_ZipB (by kernel_rfl) (by kernel_rfl)

theorem prp2_laid {W : World} (h : laidMetH Tryz.prog theLaid2 W) : Prp W := by
  have h : laidMet Tryz.prog theLaid2 W := h
  obtain ⟨ps, ⟨_, _, _, _, _, _, _, _, _, _, h2, _⟩, _⟩ := h
  obtain ⟨g, t, cs, fuel, p, q, hg, ht, hvar, hd, _, _⟩ := h2
  have hg0 : Tryz.prog.globalNamed "unicode.properties" = some gP := by kernel_rfl
  obtain rfl := Option.some.inj (hg0.symm.trans hg)
  have hty : (Tryz.prog.globals[gP]?).map (·.type) = some 347 := by kernel_rfl
  obtain rfl := Option.some.inj (hty.symm.trans ht)
  have hcs := Lib.cells_of_tab (k := .u8) (zs := nums Rows.laid_unicode_properties) Tryz.underlying347 Tryz.underlying5 (by kernel_rfl) (by kernel_rfl) hd
  have hok : prpOk (nums Rows.laid_unicode_properties) = true := by kernel_rfl
  unfold World.var? at hvar
  rw [hg0] at hvar
  simp only [Option.bind_some] at hvar
  split at hvar
  · rename_i cs' t' fz hh
    have e : cs' = cs := Option.some.inj hvar
    refine ⟨cs', t', fz, hh, fun n hn => ?_⟩
    have h3 := List.all_eq_true.1 hok n (List.mem_range.2 hn)
    have h4 : cs'[n]? = ((nums Rows.laid_unicode_properties).map fun z => Value.int .u8 z)[n]? := by rw [e, ← hcs]; simp
    rw [h4, List.getElem?_map]
    split at h3
    · rename_i v hv
      rw [hv]
      simp only [Bool.and_eq_true, decide_eq_true_eq, beq_iff_eq] at h3
      refine ⟨v, rfl, h3.1, ?_⟩
      have h5 := h3.2
      constructor
      · intro h6
        rw [decide_eq_true h6] at h5
        simpa using h5.symm
      · intro h6
        rw [decide_eq_true h6.1, decide_eq_true h6.2] at h5
        simpa using h5
    · cases h3
  · cases hvar
end Go.Proofs.YtpiegpegjbmlkaaGreatDoor
namespace Go.Kd
section
variable {P : Program} {n : Nat} {ops : List Oper} {Q : Post} {D : List Deferred} {e : Env} {w : World} {R : World → World → Prop}
/-- the one that comes next -/
theorem WX.one {listed : Array Bool} {k i : Nat} {o : Oper} {d : Nat} {S : Value → World → Prop} (hr : (Region.ready .any ops.toArray listed == [i]) = true)
    (hi : ops[i]? = some o) (hd : o.dst = some d) (hl : Nat.blt d n = true) (hg : wn ops e o.guard = some true) (h : Stp P e o w S)
    (hk : ∀ v w', S v w' → R w w' ∧ WX R P n ops Q (listed.setIfInBounds i true) k D ((d, v) :: e) w') : WX R P n ops Q listed (k + 1) D e w := ⟨fun hcl a ha => by
  have hrr : Region.ready .any ops.toArray listed = [i] := by simpa using hr
  have hri : i ∈ Region.ready .any ops.toArray listed := by rw [hrr]; simp
  have hi2 : ops.toArray[i]? = some o := by simpa using hi
  refine ⟨fun h0 => (by rw [h0] at hrr; cases hrr), fun m hm => ?_⟩
  rw [hrr] at hm
  simp only [List.mem_cons, List.not_mem_nil, or_false] at hm
  unfold wpOp
  subst hm
  simp only [hi2]
  rw [wn_spec hg ha, if_pos rfl]
  exact .inl (upon_of_stp ha h fun v w' hR => ⟨.inl (hk v w' hR).1, (hk v w' hR).2.out (hcl.step hri) _ (by rw [hd]; exact ha.put (by simpa [Nat.blt_eq] using hl) v)⟩)⟩
/-- one of three comes next -/
theorem WX.three {listed : Array Bool} {k i j l : Nat} {o o' o2 : Oper} {d d' d2 : Nat} {S S' S2 : Value → World → Prop} (hr : (Region.ready .any ops.toArray listed == [i, j, l]) = true)
    (hi : ops[i]? = some o) (hd : o.dst = some d) (hl : Nat.blt d n = true) (hg : wn ops e o.guard = some true) (h : Stp P e o w S)
    (hi' : ops[j]? = some o') (hd' : o'.dst = some d') (hl' : Nat.blt d' n = true) (hg' : wn ops e o'.guard = some true) (h' : Stp P e o' w S')
    (hi2 : ops[l]? = some o2) (hd2 : o2.dst = some d2) (hl2 : Nat.blt d2 n = true) (hg2 : wn ops e o2.guard = some true) (h2 : Stp P e o2 w S2)
    (hk : ∀ v w', S v w' → R w w' ∧ WX R P n ops Q (listed.setIfInBounds i true) k D ((d, v) :: e) w') (hk' : ∀ v w', S' v w' → R w w' ∧ WX R P n ops Q (listed.setIfInBounds j true) k D ((d', v) :: e) w')
    (hk2 : ∀ v w', S2 v w' → R w w' ∧ WX R P n ops Q (listed.setIfInBounds l true) k D ((d2, v) :: e) w') :
    WX R P n ops Q listed (k + 1) D e w := ⟨fun hcl a ha => by
  have hrr : Region.ready .any ops.toArray listed = [i, j, l] := by simpa using hr
  have hri : i ∈ Region.ready .any ops.toArray listed := by rw [hrr]; simp
  have hrj : j ∈ Region.ready .any ops.toArray listed := by rw [hrr]; simp
  have hrl : l ∈ Region.ready .any ops.toArray listed := by rw [hrr]; simp
  have hi3 : ops.toArray[i]? = some o := by simpa using hi
  have hj3 : ops.toArray[j]? = some o' := by simpa using hi'
  have hl3 : ops.toArray[l]? = some o2 := by simpa using hi2
  refine ⟨fun h0 => (by rw [h0] at hrr; cases hrr), fun m hm => ?_⟩
  rw [hrr] at hm
  simp only [List.mem_cons, List.not_mem_nil, or_false] at hm
  unfold wpOp
  rcases hm with rfl | rfl | rfl
  · simp only [hi3]
    rw [wn_spec hg ha, if_pos rfl]
    exact .inl (upon_of_stp ha h fun v w' hR => ⟨.inl (hk v w' hR).1, (hk v w' hR).2.out (hcl.step hri) _ (by rw [hd]; exact ha.put (by simpa [Nat.blt_eq] using hl) v)⟩)
  · simp only [hj3]
    rw [wn_spec hg' ha, if_pos rfl]
    exact .inl (upon_of_stp ha h' fun v w' hR => ⟨.inl (hk' v w' hR).1, (hk' v w' hR).2.out (hcl.step hrj) _ (by rw [hd']; exact ha.put (by simpa [Nat.blt_eq] using hl') v)⟩)
  · simp only [hl3]
    rw [wn_spec hg2 ha, if_pos rfl]
    exact .inl (upon_of_stp ha h2 fun v w' hR => ⟨.inl (hk2 v w' hR).1, (hk2 v w' hR).2.out (hcl.step hrl) _ (by rw [hd2]; exact ha.put (by simpa [Nat.blt_eq] using hl2) v)⟩)⟩
/-- less is known -/
theorem WX.env {listed : Array Bool} {k : Nat} {e' : Env} (h : WX R P n ops Q listed k D e' w) (hs : ∀ i v, lk e' i = some v → lk e i = some v) : WX R P n ops Q listed k D e w := ⟨fun hcl a ha => h.out hcl a ⟨ha.size, ha.defers, fun i v hi => ha.get i v (hs i v hi)⟩⟩
theorem WX.ls {listed l' : Array Bool} {k : Nat} (h : WX R P n ops Q l' k D e w) (hl : (listed == l') = true) : WX R P n ops Q listed k D e w := by
  have : listed = l' := by simpa using hl
  rw [this]
  exact h
/-- the goal as a function of what is listed, the environment and the world -/
theorem WX.cap {listed : Array Bool} {k : Nat} (h : ∀ G : Array Bool → Nat → Env → World → Prop, (∀ ls k e w, WX R P n ops Q ls k D e w → G ls k e w) → (∀ ls k e w, G ls k e w → WX R P n ops Q ls k D e w) → G listed k e w) : WX R P n ops Q listed k D e w :=
  h (fun ls k e w => WX R P n ops Q ls k D e w) (fun _ _ _ _ h => h) fun _ _ _ _ h => h
/-- a cut behind a part that is entered already -/
theorem W.cutR {c : Code} {K : List Deferred → Env → World → Prop} (I : Env → World → Prop) (h1 : W P n c (fun x' D' e' w' => x' = .normal ∧ D' = [] ∧ I e' w') D e w) (h2 : ∀ e' w', I e' w' → K [] e' w') : W P n c (thn K Q) D e w :=
  h1.mono fun x' D' e' w' ⟨hx, hD, hI⟩ => by subst hx hD; exact thn_normal (h2 e' w' hI)
end
end Go.Kd
namespace Go.Proofs.YtpiegpegjbmlkaaGreatDoor
open Go Go.Kd
set_option maxRecDepth 100000

/-- rows that are types -/
def RwR (w : World) (p : Nat → Prop) (R : List (List Value)) (l : List Ty) : Prop := ∀ (i : Nat) r e, R[i]? = some r → l[i]? = some e → TyV w p r e
theorem TysV.rows {w : World} {p : Nat → Prop} {a : Option Addr} {cp : Nat} {l : List Ty} (h : TysV w p a cp l) : ∃ R : List (List Value), R.length = l.length ∧ SlC w p 8 a l.length (fun i => R.getD i []) ∧ RwR w p R l := by
  obtain ⟨_, f, h1, h2⟩ := h
  refine ⟨(List.range l.length).map f, by simp, fun i hi => ?_, fun i r e hr he => ?_⟩
  · obtain ⟨b, o, k1, k2, k3⟩ := h1 i hi
    refine ⟨b, o, k1, k2, ?_⟩
    have : ((List.range l.length).map f).getD i [] = f i := by simp [List.getD, List.getElem?_range hi]
    simp only [this]
    exact k3
  · have hi := (List.getElem?_eq_some_iff.1 he).1
    rw [List.getElem?_map, List.getElem?_range hi] at hr
    cases hr
    exact h2 i e he
theorem TyV.ones {p : Nat → Prop} {w : World} {cs : List Value} {t : Ty} (h : TyV w p cs t) : ∀ u ∈ cs, u.oneCell' = true := by
  cases h with
  | mk k n c vr es nm tg em a cp f h1 h2 h3 => intro u hu; simp [tyl] at hu; rcases hu with rfl | rfl | rfl | rfl | rfl | rfl | rfl | rfl <;> rfl
theorem RwR.of {w : World} {p : Nat → Prop} {R : List (List Value)} {l : List Ty} (hl : R.length = l.length) (h : RwR w p R l) {r : List Value} (hr : r ∈ R) : ∃ e, TyV w p r e := by
  obtain ⟨i, hi⟩ := List.getElem?_of_mem hr
  have hlt := (List.getElem?_eq_some_iff.1 hi).1
  exact ⟨_, h i r _ hi (List.getElem?_eq_getElem (by omega))⟩
theorem RwR.snoc {w : World} {p : Nat → Prop} {R : List (List Value)} {l : List Ty} (hl : R.length = l.length) (h : RwR w p R l) {r : List Value} {e : Ty} (hr : TyV w p r e) : RwR w p (R ++ [r]) (l ++ [e]) := fun i r' e' h1 h2 => by
  rcases Nat.lt_trichotomy i l.length with hi | hi | hi
  · rw [List.getElem?_append_left (by omega)] at h1 h2
    exact h i r' e' h1 h2
  · subst hi
    rw [List.getElem?_append_right (by omega), hl, Nat.sub_self] at h1
    rw [List.getElem?_append_right (by omega), Nat.sub_self] at h2
    simp at h1 h2
    subst h1 h2
    exact hr
  · rw [List.getElem?_eq_none (by simp; omega)] at h1
    cases h1
theorem RwR.cons {w : World} {p : Nat → Prop} {R : List (List Value)} {l : List Ty} (h : RwR w p R l) {r : List Value} {e : Ty} (hr : TyV w p r e) : RwR w p ([r] ++ R) ([e] ++ l) := fun i r' e' h1 h2 => by
  match i with
  | 0 =>
    simp at h1 h2
    subst h1 h2
    exact hr
  | i + 1 => exact h i r' e' (by simpa using h1) (by simpa using h2)
theorem Own.has1 {w : World} {base r el sz : Nat} {cs : List Value} (h : Has w r (.cells cs.toArray el)) (hl : cs.length = sz) (hb : base ≤ r) : Own w base el sz (.slice (some ⟨r, 0, none⟩) 1 1) [cs] :=
  ⟨fun l hm => by simp at hm; rw [hm]; exact hl, by simp [hl], .inr ⟨r, 1, cs.toArray, rfl, hb, h.at_, Nat.le_refl _, by decide, by simp [hl], by simp [← hl]⟩⟩
theorem own_ls {w0 w : World} {base : Nat} {p : Nat → Prop} {v : Value} {R : List (List Value)} {l : List Ty} (ho : Own w base 26 8 v R) (hl : R.length = l.length) (hR : RwR w0 p R l) (x : Ext w0 w) :
    ∃ a cp, v = .slice a l.length cp ∧ TysV w (fun b => p b ∨ v.ownBlock = some b) a cp l := by
  obtain ⟨a, cp, e, h1, h2⟩ := ho.shape
  refine ⟨a, cp, by rw [e, hl], by omega, fun i => R.getD i [], ?_, fun i t hq => ?_⟩
  · rw [← hl]
    exact h2.mono fun b hb => .inr hb
  · have hi : i < R.length := by rw [hl]; exact (List.getElem?_eq_some_iff.1 hq).1
    show TyV w _ (R.getD i []) t
    rw [List.getD_eq_getElem?_getD, List.getElem?_eq_getElem hi]
    exact ((hR i _ t (List.getElem?_eq_getElem hi) hq).ext x).mono fun b hb => .inl hb
theorem idX_fnR {tags : Bool} {c c' : Nat} {vr vr' : Bool} {xs ys : List X} : idX tags (fnX c vr xs) (fnX c' vr' ys) = (c == c' && vr == vr' && idL tags xs ys) := by
  unfold fnX
  rw [idX_node, if_neg (by decide), show ((c : Int) == (c' : Int)) = (c == c') from by rw [Bool.eq_iff_iff]; simp [Int.ofNat_inj]]
  simp [sameAn]
end Go.Proofs.YtpiegpegjbmlkaaGreatDoor
namespace Go.Proofs.YtpiegpegjbmlkaaGreatDoor.Law
open Go Go.Kd
set_option maxRecDepth 100000

set_option maxHeartbeats 8000000 in
theorem c_FnResults {D : List De} {a : Option Addr} {cp : Nat} {l1 : List Ty} {a1 : Option Addr} {c1 : Nat} {l2 : List Ty} {a2 : Option Addr} {c2 : Nat} {t3 : Ty} {a3 : Option Addr} {c3 : Nat} {w : World} (hp : Prp w) (hwd : wtD D ≤ 1048576) (hw1 : wts l1 ≤ 1048576) (hw2 : wts l2 ≤ 1048576) (hw3 : wt t3 ≤ 1048576) (hd : DsV w (fun b => b < w.heap.size) (.slice a D.length cp) D) (ht1 : TysV w (fun b => b < w.heap.size) a1 c1 l1) (ht2 : TysV w (fun b => b < w.heap.size) a2 c2 l2) (ht3 : TysV w (fun b => b < w.heap.size) a3 c3 t3.elems) :
    Calls Tryz.prog 14 #[.slice a D.length cp, .slice a1 l1.length c1, .slice a2 l2.length c2, .agg (tyc t3 a3 c3).toArray] w (Ret fun r w' => r = .bool true ∧ Ext w w') := by
  have hDl : D.length ≤ 16777216 := by have := len_wtD D; omega
  have lw : LW D a cp w := ⟨hp, hd⟩
  have T3 : TvV w (.agg (tyc t3 a3 c3).toArray) t3 := ⟨⟨_, _, rfl, ht3⟩⟩
  have L1 : LsV w (.slice a1 l1.length c1) l1 := ⟨⟨_, _, rfl, ht1⟩⟩
  have hn1 : l1.length ≤ 1048576 := Nat.le_trans (wts_len l1) hw1
  have L2 : LsV w (.slice a2 l2.length c2) l2 := ⟨⟨_, _, rfl, ht2⟩⟩
  have hn2 : l2.length ≤ 1048576 := Nat.le_trans (wts_len l2) hw2
  have x0 : Ext w w := Ext.rfl' w
  refine W.enter (args := [.slice a D.length cp, .slice a1 l1.length c1, .slice a2 l2.length c2, .agg (tyc t3 a3 c3).toArray]) Tryz.func14 rfl Tryz.ntmps14 rfl rfl ?_
  refine zst ?_
  refine WU.stp rfl rfl rfl (by first | exact stp_box rfl rfl | exact stp_box1 rfl rfl) ?_
  rintro _ w1 ⟨b1, rfl, n1⟩
  replace lw := lw.ext n1.ext
  replace T3 := T3.ext n1.ext
  replace L1 := L1.ext n1.ext
  replace L2 := L2.ext n1.ext
  replace x0 := x0.trans n1.ext
  have ib3 : Has w1 b1 (.cells (tyc t3 a3 c3).toArray 26) := n1.has
  refine zst ?_
  rw [show decide ((2147483647 : Int) < (D.length : Int)) = false by simp; omega]
  refine zst ?_
  rw [show decide ((2147483647 : Int) < (l1.length : Int)) = false by have := wts_len l1; simp; omega]
  refine zst ?_
  rw [show decide ((2147483647 : Int) < (l2.length : Int)) = false by have := wts_len l2; simp; omega]
  refine zst ?_
  refine WU.stp rfl rfl rfl (stp_call rfl (c_zzFits1 t3 a3 c3 _ (by omega))) ?_
  rintro _ w2 ⟨rfl, x2⟩
  replace lw := lw.ext x2
  replace T3 := T3.ext x2
  replace L1 := L1.ext x2
  replace L2 := L2.ext x2
  replace ib3 := ib3.ext' x2
  replace x0 := x0.trans x2
  refine zst ?_
  have hw13 : wts (l1 ++ [t3]) ≤ 2097152 := by rw [wts_app]; simp only [wts]; omega
  have hw23 : wts ([t3] ++ l2) ≤ 2097152 := by rw [wts_app]; simp only [wts]; omega
  have hn13 : (l1 ++ [t3]).length ≤ 2097152 := by simp; omega
  have hn23 : ([t3] ++ l2).length ≤ 2097152 := by simp; omega
  refine W.cutR (fun e w1 => ∃ b9 a9 c9, (∀ i v, lk [(9, pt b9), (0, .slice a D.length cp), (1, .slice a1 l1.length c1), (2, .slice a2 l2.length c2), (7, pt b1)] i = some v → lk e i = some v) ∧ Has w1 b9 (.cells (tyc (fnT (l1 ++ [t3]) l2 false) a9 c9).toArray 26) ∧ TvV w1 (.agg (tyc (fnT (l1 ++ [t3]) l2 false) a9 c9).toArray) (fnT (l1 ++ [t3]) l2 false) ∧ Ext w2 w1) ?_ ?_
  · refine W.regX2 (fun u v => Has u b1 (.cells (tyc t3 a3 c3).toArray 26) → Has v b1 (.cells (tyc t3 a3 c3).toArray 26)) ?_
    intro wr xr _
    have rR : ∀ u : World, Has u b1 (.cells (tyc t3 a3 c3).toArray 26) → Has u b1 (.cells (tyc t3 a3 c3).toArray 26) := fun _ h => h
    have rT : ∀ u v x : World, (Has u b1 (.cells (tyc t3 a3 c3).toArray 26) → Has v b1 (.cells (tyc t3 a3 c3).toArray 26)) → (Has v b1 (.cells (tyc t3 a3 c3).toArray 26) → Has x b1 (.cells (tyc t3 a3 c3).toArray 26)) → Has u b1 (.cells (tyc t3 a3 c3).toArray 26) → Has x b1 (.cells (tyc t3 a3 c3).toArray 26) := fun _ _ _ h k x => k (h x)
    have ibr := ib3.ext' xr
    have xw := x0.trans xr
    have zr := xr.size
    have zb := ib3.lt
    have z0 := xw.size
    have q1 := ht1.ext xw
    have q2 := ht2.ext xw
    have q3 := ht3.ext xw
    obtain ⟨RI, hRl, hRs, hRR⟩ := q1.rows
    have hx3 : TyV wr (fun b => b < w.heap.size) (tyc t3 a3 c3) t3 := TyV.of_tys q3
    have hRX := RwR.snoc hRl hRR hx3
    have hRXl : (RI ++ [tyc t3 a3 c3]).length = (l1 ++ [t3]).length := by simp [hRl]
    refine WX.q rR rT 0 (by kernel_rfl) (by kernel_rfl) (by kernel_rfl) rfl rfl rfl rfl (fun w' _ => zyl) ?_
    refine WX.q rR rT 5 (by kernel_rfl) (by kernel_rfl) (by kernel_rfl) rfl rfl rfl rfl (fun w' _ => zyl) ?_
    refine WX.q rR rT 2 (by kernel_rfl) (by kernel_rfl) (by kernel_rfl) rfl rfl rfl rfl (fun w' hk => by have i1 := hk ibr; exact yld_load_cells rfl (Cells.has i1)) ?_
    refine WX.cap fun G toG ofG => ?_
    have TE : ∀ (w1 : World) (b9 : Nat) (f : Value) (q : Nat → Prop), TvP w1 q f (fnT (l1 ++ [t3]) l2 false) → (∀ b, q b → b < w1.heap.size) → ¬ q b9 → Has w1 b9 (.cells (tyl 0 0 0 false (.slice none 0 0) E0 E0 false).toArray 26) → wr.heap.size ≤ b9 → Ext wr w1 → G #[true, true, true, true, true, true, true, true, false] 1 [(35, f), (9, pt b9), (34, .slice a2 l2.length c2), (31, .agg (tyc t3 a3 c3).toArray), (29, .slice a1 l1.length c1), (0, .slice a D.length cp), (1, .slice a1 l1.length c1), (2, .slice a2 l2.length c2), (7, pt b1)] w1 := by
      intro w1 b9 f q hf hq hnq h9 g9 hx
      refine toG _ _ _ _ ?_
      obtain ⟨fa, fc, rfl, hft⟩ := hf.ex
      refine WX.lin rR rT [(8, .z)] (by kernel_rfl) (by kernel_rfl) rfl ?_
      refine WR.last0 rfl rfl rfl (stp_store_whole rfl rfl rfl rfl) ?_
      rintro _ w2 u2
      refine WR.nil ⟨rfl, rfl, b9, fa, fc, sub_of ⟨rfl, rfl, rfl, rfl, rfl, trivial⟩, u2.has, ?_, ?_⟩
      · exact (TvP.upd u2 hnq hf).mono fun b hb => by have := hq b hb; have := u2.size; omega
      · exact u2.ext (xr.trans hx) (by omega)
    have TD : ∀ (w1 : World) (b9 : Nat) (a4 : Option Addr) (k4 : Nat), TysV w1 (fun b => b < w1.heap.size ∧ b ≠ b9) a4 k4 (l1 ++ [t3]) → Has w1 b9 (.cells (tyl 0 0 0 false (.slice none 0 0) E0 E0 false).toArray 26) → wr.heap.size ≤ b9 → Ext wr w1 → G #[true, true, true, true, true, true, false, true, false] 2 [(33, .slice a4 (l1 ++ [t3]).length k4), (9, pt b9), (34, .slice a2 l2.length c2), (31, .agg (tyc t3 a3 c3).toArray), (29, .slice a1 l1.length c1), (0, .slice a D.length cp), (1, .slice a1 l1.length c1), (2, .slice a2 l2.length c2), (7, pt b1)] w1 := by
      intro w1 b9 a4 k4 h4 h9 g9 hx
      refine toG _ _ _ _ ?_
      have z1 := hx.size
      have l9 := h9.lt
      refine WX.one (i := 6) (by kernel_rfl) rfl rfl rfl rfl (stp_call rfl (n_function h4 ((q2.ext hx).mono fun b hb => ⟨by omega, by omega⟩) (fun b hb => hb.1) hn13 (by omega))) ?_
      rintro f w2 ⟨hf, hbk, x2⟩
      refine ⟨fun h => h.ext' x2, ?_⟩
      have z2 := x2.size
      exact WX.env (WX.ls (ofG _ _ _ _ (TE w2 b9 f _ hf (fun b hb => hb.elim (fun h => by omega) fun h => (hbk b h).2) (fun h => h.elim (fun h => h.2 rfl) fun h => by have := (hbk b9 h).1; omega) (h9.ext' x2) g9 (hx.trans x2))) (by kernel_rfl)) (sub_of ⟨rfl, rfl, rfl, rfl, rfl, rfl, rfl, rfl, rfl, trivial⟩)
    have TC : ∀ (w1 : World) (a4 : Option Addr) (k4 : Nat), TysV w1 (fun b => b < w1.heap.size) a4 k4 (l1 ++ [t3]) → Ext wr w1 → G #[true, true, true, true, true, true, false, false, false] 3 [(33, .slice a4 (l1 ++ [t3]).length k4), (34, .slice a2 l2.length c2), (31, .agg (tyc t3 a3 c3).toArray), (29, .slice a1 l1.length c1), (0, .slice a D.length cp), (1, .slice a1 l1.length c1), (2, .slice a2 l2.length c2), (7, pt b1)] w1 := by
      intro w1 a4 k4 h4 hx
      refine toG _ _ _ _ ?_
      have z1 := hx.size
      refine WX.two (i := 6) (j := 7) (by kernel_rfl) rfl rfl rfl rfl (stp_call rfl (n_function h4 ((q2.ext hx).mono fun b hb => by omega) (fun b hb => hb) hn13 (by omega))) rfl rfl rfl rfl stp_alloc ?_ ?_
      · rintro f w2 ⟨hf, hbk, x2⟩
        refine ⟨fun h => h.ext' x2, ?_⟩
        have z2 := x2.size
        refine WX.one (i := 7) (by kernel_rfl) rfl rfl rfl rfl stp_alloc ?_
        rintro _ w3 ⟨b9, rfl, n9⟩
        refine ⟨fun h => h.ext' n9.ext, ?_⟩
        have e9 := n9.num
        have z3 := n9.ext.size
        exact WX.env (WX.ls (ofG _ _ _ _ (TE w3 b9 f _ (hf.at_ n9.ext) (fun b hb => hb.elim (fun h => by omega) fun h => by have := (hbk b h).2; omega) (fun h => h.elim (fun h => by omega) fun h => by have := (hbk b9 h).2; omega) n9.has (by omega) (hx.trans (x2.trans n9.ext)))) (by kernel_rfl)) (sub_of ⟨rfl, rfl, rfl, rfl, rfl, rfl, rfl, rfl, rfl, trivial⟩)
      · rintro _ w2 ⟨b9, rfl, n9⟩
        refine ⟨fun h => h.ext' n9.ext, ?_⟩
        have e9 := n9.num
        have z3 := n9.ext.size
        exact WX.env (WX.ls (ofG _ _ _ _ (TD w2 b9 a4 k4 ((h4.ext n9.ext).mono fun b hb => ⟨by omega, by omega⟩) n9.has (by omega) (hx.trans n9.ext))) (by kernel_rfl)) (sub_of ⟨rfl, rfl, rfl, rfl, rfl, rfl, rfl, rfl, rfl, trivial⟩)
    have A4 : ∀ (w1 w2 : World) (base : Nat) (v1 v4 : Value), Own w1 base 26 8 v1 RI → wr.heap.size ≤ base → Ext wr w1 → Own w2 base 26 8 v4 (RI ++ [tyc t3 a3 c3]) ∧ App w1 w2 v1 ∧ (∀ g, v4.ownBlock = some g → v1.ownBlock = some g ∨ g = w1.heap.size) →
      Ext wr w2 ∧ (Has w1 b1 (.cells (tyc t3 a3 c3).toArray 26) → Has w2 b1 (.cells (tyc t3 a3 c3).toArray 26)) ∧ (∃ a4 k4, v4 = .slice a4 (l1 ++ [t3]).length k4 ∧ TysV w2 (fun b => (fun b => b < w.heap.size) b ∨ v4.ownBlock = some b) a4 k4 (l1 ++ [t3])) ∧ ∀ b, v4.ownBlock = some b → b < w2.heap.size := by
      intro w1 w2 base v1 v4 ho hb hx ⟨o4, p4, g4⟩
      have y2 := p4.ext ho hx hb
      have z1 := hx.size
      exact ⟨y2, fun h => p4.keep h fun k hk => by have := ho.lt k hk; omega, own_ls o4 hRXl hRX y2, fun b hb => (o4.lt b hb).2⟩
    have TB : ∀ (w1 : World) (b9 b3 base : Nat) (v1 : Value), Own w1 base 26 8 v1 RI → wr.heap.size ≤ base → base ≤ w1.heap.size → v1.ownBlock ≠ some b9 → Has w1 b3 (.cells (tyc t3 a3 c3).toArray 26) → Has w1 b9 (.cells (tyl 0 0 0 false (.slice none 0 0) E0 E0 false).toArray 26) → wr.heap.size ≤ b9 → Ext wr w1 → G #[true, true, true, true, false, true, false, true, false] 3 [(30, v1), (32, .slice (some ⟨b3, 0, none⟩) 1 1), (9, pt b9), (34, .slice a2 l2.length c2), (31, .agg (tyc t3 a3 c3).toArray), (29, .slice a1 l1.length c1), (0, .slice a D.length cp), (1, .slice a1 l1.length c1), (2, .slice a2 l2.length c2), (7, pt b1)] w1 := by
      intro w1 b9 b3 base v1 ho hb hb2 hn h3 h9 g9 hx
      refine toG _ _ _ _ ?_
      have z1 := hx.size
      have l9 := h9.lt
      have hRn : RI.length ≤ 1048576 := by omega
      refine WX.one (i := 4) (by kernel_rfl) rfl rfl rfl rfl (stp_append1 (el := 26) rfl rfl ho (Cells.has h3) rfl rfl (by omega) (TyV.ones hx3) (by omega) (by have := h3.lt; omega)) ?_
      intro v4 w2 h4
      have hap := h4.2.1
      have hg4 := h4.2.2
      obtain ⟨y2, hk1, ⟨a4, k4, rfl, hty⟩, hlt4⟩ := A4 w1 w2 base v1 v4 ho hb hx h4
      refine ⟨hk1, ?_⟩
      have zz := hap.size
      exact WX.env (WX.ls (ofG _ _ _ _ (TD w2 b9 a4 k4 (hty.mono fun b hb => hb.elim (fun h => ⟨by omega, by omega⟩) fun h => ⟨hlt4 b h, fun e => by subst e; rcases hg4 b h with h' | h'; exact hn h'; omega⟩) (hap.keep h9 fun k hk e => by subst e; exact hn hk) g9 y2)) (by kernel_rfl)) (sub_of ⟨rfl, rfl, rfl, rfl, rfl, rfl, rfl, rfl, rfl, trivial⟩)
    have TA : ∀ (w1 : World) (b3 base : Nat) (v1 : Value), Own w1 base 26 8 v1 RI → wr.heap.size ≤ base → base ≤ w1.heap.size → Has w1 b3 (.cells (tyc t3 a3 c3).toArray 26) → Ext wr w1 → G #[true, true, true, true, false, true, false, false, false] 4 [(30, v1), (32, .slice (some ⟨b3, 0, none⟩) 1 1), (34, .slice a2 l2.length c2), (31, .agg (tyc t3 a3 c3).toArray), (29, .slice a1 l1.length c1), (0, .slice a D.length cp), (1, .slice a1 l1.length c1), (2, .slice a2 l2.length c2), (7, pt b1)] w1 := by
      intro w1 b3 base v1 ho hb hb2 h3 hx
      refine toG _ _ _ _ ?_
      have z1 := hx.size
      have hRn : RI.length ≤ 1048576 := by omega
      refine WX.two (i := 4) (j := 7) (by kernel_rfl) rfl rfl rfl rfl (stp_append1 (el := 26) rfl rfl ho (Cells.has h3) rfl rfl (by omega) (TyV.ones hx3) (by omega) (by have := h3.lt; omega)) rfl rfl rfl rfl stp_alloc ?_ ?_
      · intro v4 w2 h4
        obtain ⟨y2, hk1, ⟨a4, k4, rfl, hty⟩, hlt4⟩ := A4 w1 w2 base v1 v4 ho hb hx h4
        have zz := h4.2.1.size
        refine ⟨hk1, ?_⟩
        exact WX.env (WX.ls (ofG _ _ _ _ (TC w2 a4 k4 (hty.mono fun b hb => hb.elim (fun h => by omega) fun h => hlt4 b h) y2)) (by kernel_rfl)) (sub_of ⟨rfl, rfl, rfl, rfl, rfl, rfl, rfl, rfl, trivial⟩)
      · rintro _ w2 ⟨b9, rfl, n9⟩
        refine ⟨fun h => h.ext' n9.ext, ?_⟩
        have e9 := n9.num
        have z3 := n9.ext.size
        exact WX.env (WX.ls (ofG _ _ _ _ (TB w2 b9 b3 base v1 (ho.ext n9.ext) hb (by omega) (fun h => by have := (ho.lt _ h).2; omega) (h3.ext' n9.ext) n9.has (by omega) (hx.trans n9.ext))) (by kernel_rfl)) (sub_of ⟨rfl, rfl, rfl, rfl, rfl, rfl, rfl, rfl, rfl, rfl, trivial⟩)
    refine toG _ _ _ _ ?_
    refine WX.three (i := 1) (j := 3) (l := 7) (by kernel_rfl) rfl rfl rfl rfl (stp_appendN (p := (fun b => b < w.heap.size)) (el := 26) rfl rfl hRl (Own.nil wr wr.heap.size 26 8) (hRs.ext (Ext.rfl' wr)) (fun r hr => (RwR.of hRl hRR hr).elim fun _ h => h.len) rfl (by omega) (fun r hr => (RwR.of hRl hRR hr).elim fun _ h => h.ones) (by simp; omega) (Nat.le_refl _)) rfl rfl rfl rfl (stp_buildSlice rfl rfl rfl rfl rfl) rfl rfl rfl rfl stp_alloc ?_ ?_ ?_
    · skip
      rintro v1 w1 ⟨o1, p1, g1⟩
      have y1 : Ext wr w1 := p1.ext (Own.nil wr wr.heap.size 26 8) (Ext.rfl' _) (Nat.le_refl _)
      refine ⟨fun h => h.ext' y1, ?_⟩
      have s1 := y1.size
      rw [List.nil_append] at o1
      refine WX.two (i := 3) (j := 7) (by kernel_rfl) rfl rfl rfl rfl (stp_buildSlice rfl rfl rfl rfl rfl) rfl rfl rfl rfl stp_alloc ?_ ?_
      · rintro _ w2 ⟨b3, rfl, n3⟩
        refine ⟨fun h => h.ext' n3.ext, ?_⟩
        have z3 := n3.ext.size
        exact WX.env (WX.ls (ofG _ _ _ _ (TA w2 b3 wr.heap.size v1 (o1.ext n3.ext) (Nat.le_refl _) (by omega) n3.has (y1.trans n3.ext))) (by kernel_rfl)) (sub_of ⟨rfl, rfl, rfl, rfl, rfl, rfl, rfl, rfl, rfl, trivial⟩)
      · rintro _ w2 ⟨b9, rfl, n9⟩
        refine ⟨fun h => h.ext' n9.ext, ?_⟩
        have e9 := n9.num
        have z9 := n9.ext.size
        refine WX.one (i := 3) (by kernel_rfl) rfl rfl rfl rfl (stp_buildSlice rfl rfl rfl rfl rfl) ?_
        rintro _ w3 ⟨b3, rfl, n3⟩
        refine ⟨fun h => h.ext' n3.ext, ?_⟩
        have z3 := n3.ext.size
        exact WX.env (WX.ls (ofG _ _ _ _ (TB w3 b9 b3 wr.heap.size v1 ((o1.ext n9.ext).ext n3.ext) (Nat.le_refl _) (by omega) (fun h => by have := (o1.lt _ h).2; omega) n3.has (n9.has.ext' n3.ext) (by omega) (y1.trans (n9.ext.trans n3.ext)))) (by kernel_rfl)) (sub_of ⟨rfl, rfl, rfl, rfl, rfl, rfl, rfl, rfl, rfl, rfl, trivial⟩)
    · rintro _ w1 ⟨b3, rfl, n3⟩
      refine ⟨fun h => h.ext' n3.ext, ?_⟩
      have z3 := n3.ext.size
      refine WX.two (i := 1) (j := 7) (by kernel_rfl) rfl rfl rfl rfl (stp_appendN (p := (fun b => b < w.heap.size)) (el := 26) rfl rfl hRl (Own.nil w1 w1.heap.size 26 8) (hRs.ext n3.ext) (fun r hr => (RwR.of hRl hRR hr).elim fun _ h => h.len) rfl (by omega) (fun r hr => (RwR.of hRl hRR hr).elim fun _ h => h.ones) (by simp; omega) (Nat.le_refl _)) rfl rfl rfl rfl stp_alloc ?_ ?_
      · skip
        rintro v1 w2 ⟨o2, p2, g2⟩
        have y2 : Ext w1 w2 := p2.ext (Own.nil w1 w1.heap.size 26 8) (Ext.rfl' _) (Nat.le_refl _)
        refine ⟨fun h => h.ext' y2, ?_⟩
        have s2 := y2.size
        rw [List.nil_append] at o2
        exact WX.env (WX.ls (ofG _ _ _ _ (TA w2 b3 w1.heap.size v1 o2 (by omega) (by omega) (n3.has.ext' y2) (n3.ext.trans y2))) (by kernel_rfl)) (sub_of ⟨rfl, rfl, rfl, rfl, rfl, rfl, rfl, rfl, rfl, trivial⟩)
      · rintro _ w2 ⟨b9, rfl, n9⟩
        refine ⟨fun h => h.ext' n9.ext, ?_⟩
        have e9 := n9.num
        have z9 := n9.ext.size
        have h9 := n9.has.lt
        refine WX.one (i := 1) (by kernel_rfl) rfl rfl rfl rfl (stp_appendN (p := (fun b => b < w.heap.size)) (el := 26) rfl rfl hRl (Own.nil w2 w2.heap.size 26 8) (hRs.ext (n3.ext.trans n9.ext)) (fun r hr => (RwR.of hRl hRR hr).elim fun _ h => h.len) rfl (by omega) (fun r hr => (RwR.of hRl hRR hr).elim fun _ h => h.ones) (by simp; omega) (Nat.le_refl _)) ?_
        rintro v1 w3 ⟨o3, p3, g3⟩
        have y3 : Ext w2 w3 := p3.ext (Own.nil w2 w2.heap.size 26 8) (Ext.rfl' _) (Nat.le_refl _)
        refine ⟨fun h => h.ext' y3, ?_⟩
        have s3 := y3.size
        rw [List.nil_append] at o3
        exact WX.env (WX.ls (ofG _ _ _ _ (TB w3 b9 b3 w2.heap.size v1 o3 (by omega) (by omega) (fun h => by have := (o3.lt _ h).1; omega) ((n3.has.ext' n9.ext).ext' y3) (n9.has.ext' y3) (by omega) (n3.ext.trans (n9.ext.trans y3)))) (by kernel_rfl)) (sub_of ⟨rfl, rfl, rfl, rfl, rfl, rfl, rfl, rfl, rfl, rfl, trivial⟩)
    · rintro _ w1 ⟨b9, rfl, n9⟩
      refine ⟨fun h => h.ext' n9.ext, ?_⟩
      have e9 := n9.num
      have z9 := n9.ext.size
      have h9 := n9.has.lt
      refine WX.two (i := 1) (j := 3) (by kernel_rfl) rfl rfl rfl rfl (stp_appendN (p := (fun b => b < w.heap.size)) (el := 26) rfl rfl hRl (Own.nil w1 w1.heap.size 26 8) (hRs.ext n9.ext) (fun r hr => (RwR.of hRl hRR hr).elim fun _ h => h.len) rfl (by omega) (fun r hr => (RwR.of hRl hRR hr).elim fun _ h => h.ones) (by simp; omega) (Nat.le_refl _)) rfl rfl rfl rfl (stp_buildSlice rfl rfl rfl rfl rfl) ?_ ?_
      · skip
        rintro v1 w2 ⟨o2, p2, g2⟩
        have y2 : Ext w1 w2 := p2.ext (Own.nil w1 w1.heap.size 26 8) (Ext.rfl' _) (Nat.le_refl _)
        refine ⟨fun h => h.ext' y2, ?_⟩
        have s2 := y2.size
        rw [List.nil_append] at o2
        refine WX.one (i := 3) (by kernel_rfl) rfl rfl rfl rfl (stp_buildSlice rfl rfl rfl rfl rfl) ?_
        rintro _ w3 ⟨b3, rfl, n3⟩
        refine ⟨fun h => h.ext' n3.ext, ?_⟩
        have z3 := n3.ext.size
        exact WX.env (WX.ls (ofG _ _ _ _ (TB w3 b9 b3 w1.heap.size v1 (o2.ext n3.ext) (by omega) (by omega) (fun h => by have := (o2.lt _ h).1; omega) n3.has ((n9.has.ext' y2).ext' n3.ext) (by omega) (n9.ext.trans (y2.trans n3.ext)))) (by kernel_rfl)) (sub_of ⟨rfl, rfl, rfl, rfl, rfl, rfl, rfl, rfl, rfl, rfl, trivial⟩)
      · rintro _ w2 ⟨b3, rfl, n3⟩
        refine ⟨fun h => h.ext' n3.ext, ?_⟩
        have z3 := n3.ext.size
        refine WX.one (i := 1) (by kernel_rfl) rfl rfl rfl rfl (stp_appendN (p := (fun b => b < w.heap.size)) (el := 26) rfl rfl hRl (Own.nil w2 w2.heap.size 26 8) (hRs.ext (n9.ext.trans n3.ext)) (fun r hr => (RwR.of hRl hRR hr).elim fun _ h => h.len) rfl (by omega) (fun r hr => (RwR.of hRl hRR hr).elim fun _ h => h.ones) (by simp; omega) (Nat.le_refl _)) ?_
        rintro v1 w3 ⟨o3, p3, g3⟩
        have y3 : Ext w2 w3 := p3.ext (Own.nil w2 w2.heap.size 26 8) (Ext.rfl' _) (Nat.le_refl _)
        refine ⟨fun h => h.ext' y3, ?_⟩
        have s3 := y3.size
        rw [List.nil_append] at o3
        exact WX.env (WX.ls (ofG _ _ _ _ (TB w3 b9 b3 w2.heap.size v1 o3 (by omega) (by omega) (fun h => by have := (o3.lt _ h).1; omega) (n3.has.ext' y3) ((n9.has.ext' n3.ext).ext' y3) (by omega) (n9.ext.trans (n3.ext.trans y3)))) (by kernel_rfl)) (sub_of ⟨rfl, rfl, rfl, rfl, rfl, rfl, rfl, rfl, rfl, rfl, trivial⟩)
  rintro e w3 ⟨b9, a9, c9, he, h9, F9, x3⟩
  replace lw := lw.ext x3
  replace T3 := T3.ext x3
  replace L1 := L1.ext x3
  replace L2 := L2.ext x3
  replace ib3 := ib3.ext' x3
  replace x0 := x0.trans x3
  refine W.sub ?_ he
  have ib9 := h9
  clear h9
  refine zst ?_
  obtain ⟨RI, hRl, hRs, hRR⟩ := (ht2.ext x0).rows
  have hx3 : TyV w3 (fun b => b < w.heap.size) (tyc t3 a3 c3) t3 := TyV.of_tys (ht3.ext x0)
  refine WU.stp rfl rfl rfl (stp_buildSlice rfl rfl rfl rfl rfl) ?_
  rintro _ w4 ⟨r4, rfl, n4⟩
  have o4 := Own.has1 n4.has (base := w3.heap.size) (sz := 8) rfl (Nat.le_of_eq n4.num.symm)
  refine zst ?_
  refine WU.stp rfl rfl rfl (stp_appendN (p := (fun b => b < w.heap.size)) (el := 26) rfl rfl hRl o4 (hRs.ext n4.ext) (fun r hr => (RwR.of hRl hRR hr).elim fun _ h => h.len) rfl (by omega) (fun r hr => (RwR.of hRl hRR hr).elim fun _ h => h.ones) (by simp; omega) n4.ext.size) ?_
  rintro v4 w5 ⟨oA, pA, _⟩
  have yA : Ext w3 w5 := pA.ext o4 n4.ext (Nat.le_refl _)
  have hRX := hRR.cons hx3
  obtain ⟨aA, kA, rfl, hty⟩ := own_ls oA (l := [t3] ++ l2) (by simp [hRl]) hRX yA
  have zA := (x0.trans yA).size
  have LA : LsV w5 (.slice aA ([t3] ++ l2).length kA) ([t3] ++ l2) := ⟨⟨aA, kA, rfl, hty.mono fun b hb => hb.elim (fun h => by omega) fun h => (oA.lt b h).2⟩⟩
  replace lw := lw.ext yA
  replace T3 := T3.ext yA
  replace L1 := L1.ext yA
  replace L2 := L2.ext yA
  replace ib3 := ib3.ext' yA
  replace F9 := F9.ext yA
  replace ib9 := ib9.ext' yA
  replace x0 := x0.trans yA
  refine zst ?_
  refine WU.stp rfl rfl rfl (stp_call rfl (t_function L1 LA (by omega) hn23)) ?_
  rintro _ w6 ⟨⟨a41, c41, rfl, q41⟩, x6⟩
  replace lw := lw.ext x6
  replace T3 := T3.ext x6
  replace L1 := L1.ext x6
  replace L2 := L2.ext x6
  replace ib3 := ib3.ext' x6
  replace F9 := F9.ext x6
  replace ib9 := ib9.ext' x6
  replace x0 := x0.trans x6
  have P41 : TvV w6 (.agg (tyc (fnT l1 ([t3] ++ l2) false) a41 c41).toArray) (fnT l1 ([t3] ++ l2) false) := ⟨_, _, rfl, q41⟩
  refine WU.stp rfl rfl rfl stp_alloc ?_
  rintro _ w7 ⟨b7, rfl, n7⟩
  refine zst ?_
  refine WU.stp0 rfl rfl (stp_store_whole rfl rfl rfl rfl) ?_
  rintro _ w8 u8
  have ib12 : Has w8 b7 (.cells (tyc (fnT l1 ([t3] ++ l2) false) a41 c41).toArray 26) := u8.has
  have yy : Ext w6 w8 := (u8.ofNew n7).ext
  clear u8 n7
  replace lw := lw.ext yy
  replace T3 := T3.ext yy
  replace L1 := L1.ext yy
  replace L2 := L2.ext yy
  replace ib3 := ib3.ext' yy
  replace F9 := F9.ext yy
  replace ib9 := ib9.ext' yy
  replace P41 := P41.ext yy
  replace x0 := x0.trans yy
  refine zst ?_
  have wA : wt (fnT (l1 ++ [t3]) l2 false) ≤ 16777216 := by have := wt_fn (l1 ++ [t3]) l2 false; omega
  have wB : wt (fnT l1 ([t3] ++ l2) false) ≤ 16777216 := by have := wt_fn l1 ([t3] ++ l2) false; omega
  refine WU.stp rfl rfl rfl (stp_buildSlice rfl rfl rfl rfl rfl) ?_
  rintro _ w9 ⟨r9, rfl, n9⟩
  replace lw := lw.ext n9.ext
  replace T3 := T3.ext n9.ext
  replace L1 := L1.ext n9.ext
  replace L2 := L2.ext n9.ext
  replace ib3 := ib3.ext' n9.ext
  replace F9 := F9.ext n9.ext
  replace ib9 := ib9.ext' n9.ext
  replace P41 := P41.ext n9.ext
  replace ib12 := ib12.ext' n9.ext
  replace x0 := x0.trans n9.ext
  have hr : Has w9 r9 (.cells (tyc (fnT (l1 ++ [t3]) l2 false) a9 c9 ++ tyc (fnT l1 ([t3] ++ l2) false) a41 c41).toArray 26) := n9.has
  refine zst ?_
  refine WU.stp rfl rfl rfl (stp_call rfl (t_Valid2 lw hwd hr rfl rfl F9 P41 (wA) (wB))) ?_
  rintro _ w10 ⟨v, rfl, hv, x10⟩
  replace lw := lw.ext x10
  replace T3 := T3.ext x10
  replace L1 := L1.ext x10
  replace L2 := L2.ext x10
  replace ib3 := ib3.ext' x10
  replace F9 := F9.ext x10
  replace ib9 := ib9.ext' x10
  replace P41 := P41.ext x10
  replace ib12 := ib12.ext' x10
  replace x0 := x0.trans x10
  cases v with
  | false =>
    refine zst ?_
    refine zst ?_
    exact fin1 (.inl rfl) rfl rfl ⟨rfl, x0⟩
  | true =>
    obtain ⟨hV, hA, hB⟩ := hv rfl
    have hok := okD hV hwd
    obtain ⟨xs, ys, X1, X2, XA⟩ := VX.fn hok hV (n := 2097152) (by decide) hA hw13 (by omega)
    obtain ⟨xs2, ys2, X3, X4, XB⟩ := VX.fn hok hV (n := 2097152) (by decide) hB (by omega) hw23
    have hne : (xs.length == xs2.length) = false := by rw [X1.1, X3.1]; simp
    refine zst ?_
    refine WU.stp rfl rfl rfl (stp_call rfl (t_Id lw hV hwd F9 F9 XA XA (by decide) (by decide))) ?_
    rintro _ w11 ⟨rfl, x11⟩
    replace lw := lw.ext x11
    replace T3 := T3.ext x11
    replace L1 := L1.ext x11
    replace L2 := L2.ext x11
    replace ib3 := ib3.ext' x11
    replace F9 := F9.ext x11
    replace ib9 := ib9.ext' x11
    replace P41 := P41.ext x11
    replace ib12 := ib12.ext' x11
    replace x0 := x0.trans x11
    rw [idX_refl true _ XA.wf]
    refine zst ?_
    refine WU.stp rfl rfl rfl (stp_call rfl (t_Id lw hV hwd P41 P41 XB XB (by decide) (by decide))) ?_
    rintro _ w12 ⟨rfl, x12⟩
    replace lw := lw.ext x12
    replace T3 := T3.ext x12
    replace L1 := L1.ext x12
    replace L2 := L2.ext x12
    replace ib3 := ib3.ext' x12
    replace F9 := F9.ext x12
    replace ib9 := ib9.ext' x12
    replace P41 := P41.ext x12
    replace ib12 := ib12.ext' x12
    replace x0 := x0.trans x12
    rw [idX_refl true _ XB.wf]
    refine zst ?_
    refine WU.stp rfl rfl rfl (stp_call rfl (t_Id lw hV hwd F9 P41 XA XB (by decide) (by decide))) ?_
    rintro _ w13 ⟨rfl, x13⟩
    replace lw := lw.ext x13
    replace T3 := T3.ext x13
    replace L1 := L1.ext x13
    replace L2 := L2.ext x13
    replace ib3 := ib3.ext' x13
    replace F9 := F9.ext x13
    replace ib9 := ib9.ext' x13
    replace P41 := P41.ext x13
    replace ib12 := ib12.ext' x13
    replace x0 := x0.trans x13
    rw [idX_fnR, hne]
    refine zst ?_
    exact fin1 (.inl rfl) rfl rfl ⟨rfl, x0⟩
end Go.Proofs.YtpiegpegjbmlkaaGreatDoor.Law

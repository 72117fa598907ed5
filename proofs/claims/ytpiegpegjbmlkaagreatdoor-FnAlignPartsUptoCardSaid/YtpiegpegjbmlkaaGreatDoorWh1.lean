/- The walks and the plain laws, part 1. -/
import Derived.Test.YtpiegpegjbmlkaaGreatDoorZ6
import Derived.Test.YtpiegpegjbmlkaaGreatDoorZ1
namespace Go.Proofs.YtpiegpegjbmlkaaGreatDoor.Law
open Go Go.Kd
set_option maxRecDepth 100000

/-- a type as a field -/
def fldT (nm : ByteArray) (t : Ty) : Ty := .mk t.kind t.n t.count t.vr t.elems nm eB false
theorem Eqv.fldT (nm : ByteArray) (t : Ty) : Eqv t (fldT nm t) := ⟨rfl, rfl, rfl, rfl, rfl⟩
theorem wt_fldT (nm : ByteArray) (t : Ty) : wt (fldT nm t) ≤ wt t + nm.size := by rw [wt_eq t, wt_eq]; show 1 + (nm.size + 0) + _ ≤ _; simp only [Law.fldT, Ty.elems]; omega
theorem n_field {nm : ByteArray} {v : Value} {t : Ty} {w : World} {p : Nat → Prop} (h : TvP w p v t) : Calls Tryz.prog 20 #[.string nm, v, .string E0] w (Ret fun r w' => TvP w' p r (fldT nm t) ∧ Ext w w') := by
  obtain ⟨a, c, rfl, ht⟩ := h.ex
  exact (c_field nm E0 t.kind t.n t.count t.vr a t.elems.length c t.name t.tag t.emb w).mono fun _ _ ⟨r, e, h, x⟩ => ⟨r, e, ⟨a, c, h, ht.ext x⟩, x⟩
theorem t_field {nm : ByteArray} {v : Value} {t : Ty} {w : World} (h : TvV w v t) : Calls Tryz.prog 20 #[.string nm, v, .string E0] w (Ret fun r w' => TvV w' r (fldT nm t) ∧ Ext w w') :=
  (n_field h).mono fun _ _ ⟨r, e, h, x⟩ => ⟨r, e, h.mono fun b hb => by have := x.size; omega, x⟩
theorem t_of2 {k n : Int} {t u : Ty} {v v' : Value} {a1 a2 : Option Addr} {c1 c2 r : Nat} {w : World} (hr : Has w r (.cells (tyc t a1 c1 ++ tyc u a2 c2).toArray 26)) (hv : v = .agg (tyc t a1 c1).toArray) (hv' : v' = .agg (tyc u a2 c2).toArray) (T : TvV w v t) (T' : TvV w v' u) :
    Calls Tryz.prog 19 #[.int .i64 k, .int .i64 n, .slice (some ⟨r, 0, none⟩) 2 2] w (Ret fun q w' => TvV w' q (ndT k n [t, u]) ∧ Ext w w') := by
  subst hv hv'
  exact (c_of k n (some ⟨r, 0, none⟩) 2 2 w).mono fun _ _ ⟨q, e, h, x⟩ => ⟨q, e, ⟨_, _, h, ((tys_pair hr hr.lt T.tys T'.tys).ext x).mono fun b hb => by have := x.size; omega⟩, x⟩
theorem under_nd {D : List De} {k n : Int} {l : List Ty} (h0 : k ≠ 0) (h1 : k ≠ 1) : underT D (ndT k n l) = ndT k n l := by
  have hk : (ndT k n l).kind = k := rfl
  rw [under_lit (by omega) (by omega), norm_named (by omega)]
end Go.Proofs.YtpiegpegjbmlkaaGreatDoor.Law
namespace Go.Proofs.YtpiegpegjbmlkaaGreatDoor.Law
open Go Go.Kd
set_option maxRecDepth 100000

/-- the name of field i -/
def nmI (i : Nat) : ByteArray := ⟨#[UInt8.ofNat (65 + i)]⟩
theorem nmI_list (i : Nat) : (nmI i).toList = [UInt8.ofNat (65 + i)] := by rw [Lib.toList_data]; rfl
theorem u8_nat {i : Nat} (h : i < 26) : (UInt8.ofNat (65 + i)).toNat = 65 + i := by simp; omega
theorem letter_up {c : UInt8} (h1 : 65 ≤ c.toNat) (h2 : c.toNat ≤ 90) : letter c = true := by
  have h : ∀ n : Fin 26, letter (UInt8.ofNat (65 + n.1)) = true := by decide
  have hn : c.toNat - 65 < 26 := by omega
  have e : c = UInt8.ofNat (65 + (c.toNat - 65)) := UInt8.toNat_inj.1 (by rw [u8_nat hn]; omega)
  rw [e]
  exact h ⟨c.toNat - 65, hn⟩
theorem nmI_ident {i : Nat} (h : i < 26) : Ident (nmI i).toList ∧ (nmI i).toList ≠ us := by
  rw [nmI_list]
  have h8 := u8_nat h
  refine ⟨⟨by simp, .inr fun j c hc => ?_⟩, fun he => ?_⟩
  · match j with
    | 0 =>
      have hc : UInt8.ofNat (65 + i) = c := Option.some.inj hc
      rw [← hc]
      exact .inl (letter_up (by omega) (by omega))
    | j + 1 => simp at hc
  · have : UInt8.ofNat (65 + i) = 95 := by simpa [us] using he
    rw [this] at h8
    have : (95 : UInt8).toNat = 95 := rfl
    omega
theorem nmI_inj {i j : Nat} (hi : i < 26) (hj : j < 26) (h : (nmI i).toList = (nmI j).toList) : i = j := by
  rw [nmI_list, nmI_list] at h
  have h1 := u8_nat hi
  have h2 := u8_nat hj
  have : UInt8.ofNat (65 + i) = UInt8.ofNat (65 + j) := by simpa using h
  rw [this] at h1
  omega
/-- fields of these types, from name i on -/
def flds : Nat → List Ty → List Ty
  | _, [] => []
  | i, t :: l => fldT (nmI i) t :: flds (i + 1) l
def stT (l : List Ty) : Ty := ndT 7 0 (flds 0 l)
theorem flds_len : ∀ (l : List Ty) (i : Nat), (flds i l).length = l.length
  | [], _ => rfl
  | t :: l, i => by simp only [flds, List.length_cons, flds_len l]
theorem flds_at : ∀ (l : List Ty) (i j : Nat) (e : Ty), (flds i l)[j]? = some e → ∃ t, l[j]? = some t ∧ e = fldT (nmI (i + j)) t
  | [], _, _, _, h => by simp [flds] at h
  | t :: l, i, 0, e, h => by simp [flds] at h; exact ⟨t, rfl, h.symm⟩
  | t :: l, i, j + 1, e, h => by
    obtain ⟨u, h1, h2⟩ := flds_at l (i + 1) j e (by simpa [flds] using h)
    exact ⟨u, by simpa using h1, by rw [h2, show i + (j + 1) = i + 1 + j by omega]⟩
theorem flds_app : ∀ (l : List Ty) (i : Nat) (t : Ty), flds i (l ++ [t]) = flds i l ++ [fldT (nmI (i + l.length)) t]
  | [], _, _ => rfl
  | u :: l, i, t => by simp only [List.cons_append, flds, flds_app l, List.length_cons]; rw [show i + 1 + l.length = i + (l.length + 1) by omega]
theorem names_flds {l : List Ty} {j : Nat} {s : List UInt8} (h : (names (flds 0 l))[j]? = some s) : j < l.length ∧ s = (nmI j).toList := by
  unfold names at h
  rw [List.getElem?_map, Option.map_eq_some_iff] at h
  obtain ⟨e, h1, h2⟩ := h
  obtain ⟨t, h3, h4⟩ := flds_at l 0 j e h1
  refine ⟨(List.getElem?_eq_some_iff.1 h3).1, ?_⟩
  rw [← h2, h4, Nat.zero_add]
  rfl
theorem valid_stT {D : List De} {l : List Ty} (h : ∀ t ∈ l, ValidT D t) (hl : l.length ≤ 26) : ValidT D (stT l) := by
  have he : ∀ (j : Nat) e, (stT l).elems[j]? = some e → ∃ t n, t ∈ l ∧ e = fldT n t := fun j e he => by
    obtain ⟨t, h1, h2⟩ := flds_at l 0 j e he
    exact ⟨t, _, List.mem_of_getElem? h1, h2⟩
  have hk : (stT l).kind = 7 := rfl
  have hn : (stT l).n = 0 := rfl
  refine ⟨.mk _ _ ⟨by omega, by omega, fun hl => ?_, fun _ => by omega, fun _ => ?_, fun _ => by omega, fun _ => by omega, fun _ => by omega, fun _ => by omega, fun _ => by omega⟩ fun j e hj => ?_, .mk _ (fun j e hj => ?_) ⟨fun _ => by omega, fun _ i e hi he' => ?_, fun _ => ?_, fun _ => by omega, fun _ => by omega, fun _ => by omega, fun _ => by omega, fun _ => by omega⟩⟩
  · rw [hk] at hl; simp [elemsN] at hl
  · rw [hk, hn]; simp [limitN]
  · obtain ⟨t, n, ht, rfl⟩ := he j e hj
    exact ((Eqv.fldT n t).shaped (h t ht).sh).any _
  · obtain ⟨t, n, ht, rfl⟩ := he j e hj
    exact (Eqv.fldT n t).legal (h t ht).lg
  · obtain ⟨t, n, ht, rfl⟩ := he i e hi
    cases he'
  · refine ⟨fun i s hs => ?_, fun i j s hij h1 h2 => ?_⟩
    · obtain ⟨h1, rfl⟩ := names_flds hs
      exact (nmI_ident (by omega)).1
    · obtain ⟨k1, k2⟩ := names_flds h1
      obtain ⟨k3, k4⟩ := names_flds h2
      have := nmI_inj (i := i) (j := j) (by omega) (by omega) (k2.symm.trans k4)
      omega
theorem rng_stT {l : List Ty} (h : ∀ t ∈ l, Rng t) : Rng (stT l) := .mk _ (by show (0 : Int) ≤ _; decide) fun i e he => by
  obtain ⟨t, h1, h2⟩ := flds_at l 0 i e he
  have := h t (List.mem_of_getElem? h1)
  rw [h2]
  exact .mk _ this.n this.el
theorem sz_fld {D : List De} {wd mx s a : Int} {t : Ty} (nm : ByteArray) (h : Sz D wd mx t s a) : Sz D wd mx (fldT nm t) s a := by
  have hu := (Eqv.fldT nm t).under (D := D)
  cases h with
  | basic _ hk => rw [hu.n]; exact .basic _ (by rw [← hu.kd]; exact hk)
  | slice _ hk => exact .slice _ (by rw [← hu.kd]; exact hk)
  | iface _ hk => exact .iface _ (by rw [← hu.kd]; exact hk)
  | word _ hk => exact .word _ (by rw [← hu.kd]; exact hk)
  | arr _ e s a hk he hz => rw [hu.n]; exact .arr _ e s a (by rw [← hu.kd]; exact hk) (by rw [← hu.el]; exact he) hz
  | str _ l hk hl hz => exact .str _ l (by rw [← hu.kd]; exact hk) (by rw [← hu.el]; exact hl) (by rw [← hu.el]; exact hz)
theorem sz_elT {D : List De} {wd mx s a : Int} {t : Ty} (h : Sz D wd mx t s a) : Sz D wd mx (elT t) s a := by
  have := sz_fld eB h
  exact this
theorem sz_stT {D : List De} {wd mx : Int} {l : List Ty} {ps : List (Int × Int)} (hl : ps.length = l.length) (h : ∀ (i : Nat) t q, l[i]? = some t → ps[i]? = some q → Sz D wd mx t q.1 q.2) : Sz D wd mx (stT l) (strSz 0 ps) (maxA 1 ps) := by
  have hu : underT D (stT l) = stT l := under_nd (by decide) (by decide)
  refine .str _ ps (by rw [hu]; rfl) (by rw [hu]; show ps.length = (flds 0 l).length; rw [flds_len, hl]) fun i e q he hq => ?_
  rw [hu] at he
  obtain ⟨t, h1, h2⟩ := flds_at l 0 i e he
  rw [h2]
  exact sz_fld _ (h i t q h1 hq)
theorem sz_arrT {D : List De} {wd mx s a n : Int} {t : Ty} (h : Sz D wd mx t s a) : Sz D wd mx (ndT 4 n [elT t]) (arrSz n s a) a := by
  have hu : underT D (ndT 4 n [elT t]) = ndT 4 n [elT t] := under_nd (by decide) (by decide)
  have := Sz.arr (D := D) (wd := wd) (mx := mx) (ndT 4 n [elT t]) (elT t) s a (by rw [hu]; rfl) (by rw [hu]; rfl) (sz_elT h)
  rw [hu] at this
  exact this
theorem rng_arrT {n : Int} {t : Ty} (hn : n ≤ 9223372036854775807) (h : Rng t) : Rng (ndT 4 n [elT t]) := .mk _ hn fun i e he => by
  have he : [elT t][i]? = some e := he
  match i with
  | 0 =>
    simp at he
    subst he
    exact .mk _ h.n h.el
  | i + 1 => simp at he
theorem wt_flds : ∀ (l : List Ty) (i : Nat), wts (flds i l) ≤ wts l + l.length
  | [], _ => by simp [flds, wts]
  | t :: l, i => by
    have h1 := wt_flds l (i + 1)
    have h2 := wt_fldT (nmI i) t
    have h3 : (nmI i).size = 1 := rfl
    simp only [flds, wts, List.length_cons]
    omega
theorem wt_stT (l : List Ty) : wt (stT l) ≤ 1 + wts l + l.length := by
  unfold stT
  rw [wt_nd]
  have := wt_flds l 0
  omega
theorem wt_arrT (n : Int) (t : Ty) : wt (ndT 4 n [elT t]) ≤ 1 + wt t := by rw [wt_nd]; have := wt_elT t; simp only [wts]; omega
/-- impl.Alignof, impl.Sizeof of a type -/
theorem t_Al {D : List De} {t : Ty} {s al wd mx : Int} {a : Option Addr} {cp : Nat} {v : Value} {w : World} (lw : LW D a cp w) (hbz : Bsz w) (hW : OkW wd mx) (hV : ValidD D) (hwd : wtD D ≤ 1048576) (hRD : RngD D) (h : TvV w v t) (hT : ValidT D t) (hw : wt t ≤ 16777216) (hR : Rng t) (hz : Sz D wd mx t s al) :
    Calls Tryz.prog 18 #[.slice a D.length cp, .int .i64 wd, .int .i64 mx, v] w (Ret fun r w' => r = .int .i64 al ∧ Ext w w') := by
  obtain ⟨a1, c1, rfl, ht⟩ := h.ex
  exact c_iAlignof lw.hp hbz hW hV hT (by omega) hw hRD hR hz lw.hd ht
theorem t_Sz {D : List De} {t : Ty} {s al wd mx : Int} {a : Option Addr} {cp : Nat} {v : Value} {w : World} (lw : LW D a cp w) (hbz : Bsz w) (hW : OkW wd mx) (hV : ValidD D) (hwd : wtD D ≤ 1048576) (hRD : RngD D) (h : TvV w v t) (hT : ValidT D t) (hw : wt t ≤ 16777216) (hR : Rng t) (hz : Sz D wd mx t s al) :
    Calls Tryz.prog 26 #[.slice a D.length cp, .int .i64 wd, .int .i64 mx, v] w (Ret fun r w' => (∃ z, r = .int .i64 z ∧ alk z s) ∧ Ext w w') := by
  obtain ⟨a1, c1, rfl, ht⟩ := h.ex
  exact c_iSizeof lw.hp hbz hW hV hT (by omega) hw hRD hR hz lw.hd ht
end Go.Proofs.YtpiegpegjbmlkaaGreatDoor.Law
namespace Go.Proofs.YtpiegpegjbmlkaaGreatDoor.Law
open Go Go.Kd
set_option maxRecDepth 100000

set_option maxHeartbeats 4000000 in
theorem c_FnAlignParts {D : List De} {a : Option Addr} {cp : Nat} {t1 : Ty} {a1 : Option Addr} {c1 : Nat} {t2 : Ty} {a2 : Option Addr} {c2 : Nat} {i3 : Int} {q4 : Bool} {i5 : Int} {w : World} (hp : Prp w) (hbz : Bsz w) (_ : (-9223372036854775808 : Int) ≤ i3 ∧ i3 ≤ 9223372036854775807) (_ : (-9223372036854775808 : Int) ≤ i5 ∧ i5 ≤ 9223372036854775807) (hwd : wtD D ≤ 1048576) (hw1 : wt t1 ≤ 1048576) (hw2 : wt t2 ≤ 1048576) (hd : DsV w (fun b => b < w.heap.size) (.slice a D.length cp) D) (ht1 : TysV w (fun b => b < w.heap.size) a1 c1 t1.elems) (ht2 : TysV w (fun b => b < w.heap.size) a2 c2 t2.elems) (hRD : RngD D) (hR1 : Rng t1) (hR2 : Rng t2) :
    Calls Tryz.prog 3 #[.slice a D.length cp, .agg (tyc t1 a1 c1).toArray, .agg (tyc t2 a2 c2).toArray, .int .i64 i3, .bool q4, .int .i64 i5] w (Ret fun r w' => r = .bool true ∧ Ext w w') := by
  have hDl : D.length ≤ 16777216 := by have := len_wtD D; omega
  have lw : LW D a cp w := ⟨hp, hd⟩
  have T1 : TvV w (.agg (tyc t1 a1 c1).toArray) t1 := ⟨⟨_, _, rfl, ht1⟩⟩
  have T2 : TvV w (.agg (tyc t2 a2 c2).toArray) t2 := ⟨⟨_, _, rfl, ht2⟩⟩
  have x0 : Ext w w := Ext.rfl' w
  refine W.enter (args := [.slice a D.length cp, .agg (tyc t1 a1 c1).toArray, .agg (tyc t2 a2 c2).toArray, .int .i64 i3, .bool q4, .int .i64 i5]) Tryz.func3 rfl Tryz.ntmps3 rfl rfl ?_
  refine zst ?_
  refine WU.stp rfl rfl rfl (by first | exact stp_box rfl rfl | exact stp_box1 rfl rfl) ?_
  rintro _ w1 ⟨b1, rfl, n1⟩
  replace lw := lw.ext n1.ext
  replace hbz := hbz.ext n1.ext
  replace T1 := T1.ext n1.ext
  replace T2 := T2.ext n1.ext
  replace x0 := x0.trans n1.ext
  have ib1 : Has w1 b1 (.cells (tyc t1 a1 c1).toArray 26) := n1.has
  refine zst ?_
  refine WU.stp rfl rfl rfl (by first | exact stp_box rfl rfl | exact stp_box1 rfl rfl) ?_
  rintro _ w2 ⟨b2, rfl, n2⟩
  replace lw := lw.ext n2.ext
  replace hbz := hbz.ext n2.ext
  replace T1 := T1.ext n2.ext
  replace T2 := T2.ext n2.ext
  replace ib1 := ib1.ext' n2.ext
  replace x0 := x0.trans n2.ext
  have ib2 : Has w2 b2 (.cells (tyc t2 a2 c2).toArray 26) := n2.has
  refine zst ?_
  rw [show decide ((2147483647 : Int) < (D.length : Int)) = false by simp; omega]
  refine zst ?_
  refine WU.stp rfl rfl rfl (stp_call rfl (c_zzFits1 t1 a1 c1 _ (by omega))) ?_
  rintro _ w3 ⟨rfl, x3⟩
  replace lw := lw.ext x3
  replace hbz := hbz.ext x3
  replace T1 := T1.ext x3
  replace T2 := T2.ext x3
  replace ib1 := ib1.ext' x3
  replace ib2 := ib2.ext' x3
  replace x0 := x0.trans x3
  refine zst ?_
  refine WU.stp rfl rfl rfl (stp_call rfl (c_zzFits1 t2 a2 c2 _ (by omega))) ?_
  rintro _ w4 ⟨rfl, x4⟩
  replace lw := lw.ext x4
  replace hbz := hbz.ext x4
  replace T1 := T1.ext x4
  replace T2 := T2.ext x4
  replace ib1 := ib1.ext' x4
  replace ib2 := ib2.ext' x4
  replace x0 := x0.trans x4
  refine zst ?_
  refine WU.stp rfl rfl rfl (stp_buildSlice rfl rfl rfl rfl rfl) ?_
  rintro _ w5 ⟨r5, rfl, n5⟩
  replace lw := lw.ext n5.ext
  replace hbz := hbz.ext n5.ext
  replace T1 := T1.ext n5.ext
  replace T2 := T2.ext n5.ext
  replace ib1 := ib1.ext' n5.ext
  replace ib2 := ib2.ext' n5.ext
  replace x0 := x0.trans n5.ext
  have hr : Has w5 r5 (.cells (tyc t1 a1 c1 ++ tyc t2 a2 c2).toArray 26) := n5.has
  refine zst ?_
  refine WU.stp rfl rfl rfl (stp_call rfl (t_Valid2 lw hwd hr rfl rfl T1 T2 (by omega) (by omega))) ?_
  rintro _ w6 ⟨v, rfl, hv, x6⟩
  replace lw := lw.ext x6
  replace hbz := hbz.ext x6
  replace T1 := T1.ext x6
  replace T2 := T2.ext x6
  replace ib1 := ib1.ext' x6
  replace ib2 := ib2.ext' x6
  replace x0 := x0.trans x6
  cases v with
  | false =>
    refine zst ?_
    refine zst ?_
    exact fin1 (.inl rfl) rfl rfl ⟨rfl, x0⟩
  | true =>
    obtain ⟨hV, hT, hU⟩ := hv rfl
    have hok := okD hV hwd
    have hG1 := hT.good (Nat.le_trans hw1 (by decide))
    have hG2 := hU.good (Nat.le_trans hw2 (by decide))
    obtain ⟨_, hc1⟩ := good_cmp hok hG1
    obtain ⟨_, hc2⟩ := good_cmp hok hG2
    refine zst ?_
    refine WU.stp rfl rfl rfl (stp_call rfl (c_sizes q4 i5 w6)) ?_
    rintro _ w7 ⟨wd, mx, hW, rfl, x7⟩
    replace lw := lw.ext x7
    replace hbz := hbz.ext x7
    replace T1 := T1.ext x7
    replace T2 := T2.ext x7
    replace ib1 := ib1.ext' x7
    replace ib2 := ib2.ext' x7
    replace x0 := x0.trans x7
    have hwd4 := hW.wd
    refine zst ?_
    refine WU.stp rfl rfl rfl stp_alloc ?_
    rintro _ w8 ⟨b8, rfl, n8⟩
    refine WU.stp0 rfl rfl (stp_store_whole rfl rfl rfl rfl) ?_
    rintro _ w9 u9
    have is : szb w9 b8 wd mx := u9.has
    have y9 : Ext w7 w9 := (u9.ofNew n8).ext
    clear u9 n8
    replace lw := lw.ext y9
    replace hbz := hbz.ext y9
    replace T1 := T1.ext y9
    replace T2 := T2.ext y9
    replace ib1 := ib1.ext' y9
    replace ib2 := ib2.ext' y9
    replace x0 := x0.trans y9
    obtain ⟨s1, al1, z1⟩ := exists_sz hok wd mx hc1 hG1
    obtain ⟨s2, al2, z2⟩ := exists_sz hok wd mx hc2 hG2
    have ok1 := (z1.ok hW).2
    have ok2 := (z2.ok hW).2
    have hst : ValidT D (stT [t1, t2]) := valid_stT (fun t ht => by rcases List.mem_cons.1 ht with rfl | ht; exact hT; simp at ht; rw [ht]; exact hU) (by simp)
    have hz7 : Sz D wd mx (stT [t1, t2]) _ _ := sz_stT (ps := [(s1, al1), (s2, al2)]) rfl fun i t q hi hq => by
      match i with
      | 0 => simp at hi hq; subst hi hq; exact z1
      | 1 => simp at hi hq; subst hi hq; exact z2
      | i + 2 => simp at hi
    have rst : Rng (stT [t1, t2]) := rng_stT fun t ht => by rcases List.mem_cons.1 ht with rfl | ht; exact hR1; simp at ht; rw [ht]; exact hR2
    have wst : wt (stT [t1, t2]) ≤ 16777216 := by have := wt_stT [t1, t2]; simp only [wts, List.length_cons, List.length_nil] at this; omega
    refine zst ?_
    refine W.regD [(0, .q), (1, .q), (2, .q), (3, .q), (4, .q), (5, .q), (7, .q), (8, .q), (9, .q), (10, .q), (11, .q), (12, .q), (6, .l), (13, .l), (14, .q), (15, .q)] (by kernel_rfl) (by kernel_rfl) rfl ?_
    intro w10 x10 _
    replace lw := lw.ext x10
    replace hbz := hbz.ext x10
    replace T1 := T1.ext x10
    replace T2 := T2.ext x10
    replace ib1 := ib1.ext' x10
    replace ib2 := ib2.ext' x10
    replace is := is.ext' x10
    replace x0 := x0.trans x10
    refine zsd ?_
    refine WD.stp rfl rfl rfl rfl (stp_call rfl (t_Al lw hbz hW hV hwd hRD T1 hT (by omega) hR1 z1)) ?_
    rintro _ w11 ⟨rfl, x11⟩
    refine ⟨by first | assumption | exact Ext.rfl' _ | infer_instance, ?_⟩
    replace lw := lw.ext x11
    replace hbz := hbz.ext x11
    replace T1 := T1.ext x11
    replace T2 := T2.ext x11
    replace ib1 := ib1.ext' x11
    replace ib2 := ib2.ext' x11
    replace is := is.ext' x11
    replace x0 := x0.trans x11
    refine zsd ?_
    refine WD.stp rfl rfl rfl rfl (stp_call rfl (t_Al lw hbz hW hV hwd hRD T2 hU (by omega) hR2 z2)) ?_
    rintro _ w12 ⟨rfl, x12⟩
    refine ⟨by first | assumption | exact Ext.rfl' _ | infer_instance, ?_⟩
    replace lw := lw.ext x12
    replace hbz := hbz.ext x12
    replace T1 := T1.ext x12
    replace T2 := T2.ext x12
    replace ib1 := ib1.ext' x12
    replace ib2 := ib2.ext' x12
    replace is := is.ext' x12
    replace x0 := x0.trans x12
    refine zsd ?_
    refine zst ?_
    refine W.regD [(0, .q), (1, .q), (2, .q), (3, .q), (4, .q), (5, .q), (7, .q), (6, .l), (8, .l), (9, .l), (10, .l), (11, .l), (12, .q)] (by kernel_rfl) (by kernel_rfl) rfl ?_
    intro w13 x13 _
    replace lw := lw.ext x13
    replace hbz := hbz.ext x13
    replace T1 := T1.ext x13
    replace T2 := T2.ext x13
    replace ib1 := ib1.ext' x13
    replace ib2 := ib2.ext' x13
    replace is := is.ext' x13
    replace x0 := x0.trans x13
    refine zsd ?_
    refine WD.stp rfl rfl rfl rfl (stp_call rfl (t_field (nm := nmI 0) T1)) ?_
    rintro _ w14 ⟨F1, x14⟩
    refine ⟨by first | assumption | exact Ext.rfl' _ | infer_instance, ?_⟩
    replace lw := lw.ext x14
    replace hbz := hbz.ext x14
    replace T1 := T1.ext x14
    replace T2 := T2.ext x14
    replace ib1 := ib1.ext' x14
    replace ib2 := ib2.ext' x14
    replace is := is.ext' x14
    replace x0 := x0.trans x14
    refine zsd ?_
    refine WD.stp rfl rfl rfl rfl (stp_call rfl (t_field (nm := nmI 1) T2)) ?_
    rintro _ w15 ⟨F2, x15⟩
    refine ⟨by first | assumption | exact Ext.rfl' _ | infer_instance, ?_⟩
    replace lw := lw.ext x15
    replace hbz := hbz.ext x15
    replace T1 := T1.ext x15
    replace T2 := T2.ext x15
    replace ib1 := ib1.ext' x15
    replace ib2 := ib2.ext' x15
    replace is := is.ext' x15
    replace F1 := F1.ext x15
    replace x0 := x0.trans x15
    refine zsd ?_
    obtain ⟨f1, g1, rfl, _⟩ := F1.ex
    obtain ⟨f2, g2, rfl, _⟩ := F2.ex
    refine WD.stp rfl rfl rfl rfl (stp_buildSlice rfl rfl rfl rfl rfl) ?_
    rintro _ w16 ⟨r16, rfl, n16⟩
    refine ⟨n16.ext, ?_⟩
    replace lw := lw.ext n16.ext
    replace hbz := hbz.ext n16.ext
    replace T1 := T1.ext n16.ext
    replace T2 := T2.ext n16.ext
    replace ib1 := ib1.ext' n16.ext
    replace ib2 := ib2.ext' n16.ext
    replace is := is.ext' n16.ext
    replace F1 := F1.ext n16.ext
    replace F2 := F2.ext n16.ext
    replace x0 := x0.trans n16.ext
    have hr2 : Has w16 r16 (.cells (tyc (fldT (nmI 0) t1) f1 g1 ++ tyc (fldT (nmI 1) t2) f2 g2).toArray 26) := n16.has
    refine zsd ?_
    refine WD.stp rfl rfl rfl rfl (stp_call rfl (t_of2 (k := 7) (n := 0) hr2 rfl rfl F1 F2)) ?_
    rintro _ w17 ⟨S, x17⟩
    refine ⟨by first | assumption | exact Ext.rfl' _ | infer_instance, ?_⟩
    replace lw := lw.ext x17
    replace hbz := hbz.ext x17
    replace T1 := T1.ext x17
    replace T2 := T2.ext x17
    replace ib1 := ib1.ext' x17
    replace ib2 := ib2.ext' x17
    replace is := is.ext' x17
    replace F1 := F1.ext x17
    replace F2 := F2.ext x17
    replace x0 := x0.trans x17
    refine zsd ?_
    obtain ⟨sa, sc, rfl, _⟩ := S.ex
    refine WD.stp rfl rfl rfl rfl (stp_call rfl (t_Al lw hbz hW hV hwd hRD S hst wst rst hz7)) ?_
    rintro _ w18 ⟨rfl, x18⟩
    refine ⟨by first | assumption | exact Ext.rfl' _ | infer_instance, ?_⟩
    replace lw := lw.ext x18
    replace hbz := hbz.ext x18
    replace T1 := T1.ext x18
    replace T2 := T2.ext x18
    replace ib1 := ib1.ext' x18
    replace ib2 := ib2.ext' x18
    replace is := is.ext' x18
    replace x0 := x0.trans x18
    refine zsd ?_
    refine zst ?_
    refine W.regD [(0, .q), (1, .q), (2, .q), (3, .q), (4, .q), (5, .q), (6, .q), (7, .q), (8, .q), (9, .q), (10, .l), (11, .q), (12, .q), (13, .q), (14, .q), (15, .q), (16, .q), (17, .q), (18, .q), (19, .q), (21, .q), (24, .q), (20, .l), (22, .l), (23, .l), (25, .q), (26, .q), (27, .q), (28, .q), (29, .q), (30, .q), (31, .q), (32, .q), (33, .l), (34, .l), (35, .q), (36, .q), (37, .q)] (by kernel_rfl) (by kernel_rfl) rfl ?_
    intro w19 x19 _
    replace lw := lw.ext x19
    replace hbz := hbz.ext x19
    replace T1 := T1.ext x19
    replace T2 := T2.ext x19
    replace ib1 := ib1.ext' x19
    replace ib2 := ib2.ext' x19
    replace is := is.ext' x19
    replace x0 := x0.trans x19
    refine zsd ?_
    rw [show decide (al1 ≥ 1) = true by unfold okA at ok1; simp; omega]
    refine zsd ?_
    rw [show decide (al2 ≥ 1) = true by unfold okA at ok2; simp; omega]
    refine zsd ?_
    refine WD.yld rfl rfl rfl rfl (yld_max rfl rfl) ?_
    refine zsd ?_
    rw [show (maxA 1 [(s1, al1), (s2, al2)] == max al1 al2) = true by unfold okA at ok1; simp [maxA]; omega]
    refine zsd ?_
    refine WD.stp rfl rfl rfl rfl (stp_call rfl (c_place i3 1000 w19 (by omega))) ?_
    rintro _ _ ⟨rfl, rfl⟩
    refine ⟨by first | assumption | exact Ext.rfl' _ | infer_instance, ?_⟩
    refine zsd ?_
    refine WD.stp rfl rfl rfl rfl (stp_call rfl (t_array (i3 % 1000) T1)) ?_
    rintro _ w20 ⟨A, x20⟩
    refine ⟨by first | assumption | exact Ext.rfl' _ | infer_instance, ?_⟩
    replace lw := lw.ext x20
    replace hbz := hbz.ext x20
    replace T1 := T1.ext x20
    replace T2 := T2.ext x20
    replace ib1 := ib1.ext' x20
    replace ib2 := ib2.ext' x20
    replace is := is.ext' x20
    replace x0 := x0.trans x20
    obtain ⟨aa, ac, rfl, _⟩ := A.ex
    refine zsd ?_
    refine WD.stp rfl rfl rfl rfl (stp_call rfl (t_Al lw hbz hW hV hwd hRD A (valid_nd1 (.inr (.inr (.inl ⟨rfl, by omega⟩))) hT) (by have := wt_arrT (i3 % 1000) t1; omega) (rng_arrT (by omega) hR1) (sz_arrT z1))) ?_
    rintro _ w21 ⟨rfl, x21⟩
    refine ⟨by first | assumption | exact Ext.rfl' _ | infer_instance, ?_⟩
    replace lw := lw.ext x21
    replace hbz := hbz.ext x21
    replace T1 := T1.ext x21
    replace T2 := T2.ext x21
    replace ib1 := ib1.ext' x21
    replace ib2 := ib2.ext' x21
    replace is := is.ext' x21
    replace x0 := x0.trans x21
    refine zsd ?_
    rw [show (al1 == al1) = true by simp]
    refine zsd ?_
    refine WD.stp rfl rfl rfl rfl (stp_call rfl (c_of 7 0 none 0 0 w21)) ?_
    rintro _ w22 ⟨rfl, x22⟩
    refine ⟨by first | assumption | exact Ext.rfl' _ | infer_instance, ?_⟩
    replace lw := lw.ext x22
    replace hbz := hbz.ext x22
    replace T1 := T1.ext x22
    replace T2 := T2.ext x22
    replace ib1 := ib1.ext' x22
    replace ib2 := ib2.ext' x22
    replace is := is.ext' x22
    replace x0 := x0.trans x22
    refine zsd ?_
    refine WD.stp rfl rfl rfl rfl (stp_call rfl (t_Al lw hbz hW hV hwd hRD (t := stT []) ⟨none, 0, rfl, .nil⟩ (valid_stT (fun t ht => absurd ht List.not_mem_nil) (by simp)) (by decide) (rng_stT fun t ht => absurd ht List.not_mem_nil) (sz_stT (ps := []) rfl fun i t q h => by simp at h))) ?_
    rintro _ w23 ⟨rfl, x23⟩
    refine ⟨by first | assumption | exact Ext.rfl' _ | infer_instance, ?_⟩
    replace lw := lw.ext x23
    replace hbz := hbz.ext x23
    replace T1 := T1.ext x23
    replace T2 := T2.ext x23
    replace ib1 := ib1.ext' x23
    replace ib2 := ib2.ext' x23
    replace is := is.ext' x23
    replace x0 := x0.trans x23
    refine zsd ?_
    refine zst ?_
    exact fin1 (.inl rfl) rfl rfl ⟨rfl, x0⟩
end Go.Proofs.YtpiegpegjbmlkaaGreatDoor.Law

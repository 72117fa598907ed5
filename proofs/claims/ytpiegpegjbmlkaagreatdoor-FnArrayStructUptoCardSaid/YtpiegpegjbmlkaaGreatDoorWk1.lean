/- The walks and the plain laws, part 1. -/
import Derived.Test.YtpiegpegjbmlkaaGreatDoorZ5
import Derived.Test.YtpiegpegjbmlkaaGreatDoorZ6
import Derived.Test.YtpiegpegjbmlkaaGreatDoorZ1
import Derived.Laws.IdiomStrings
namespace Go.Proofs.YtpiegpegjbmlkaaGreatDoor
open Go Go.Kd
set_option maxRecDepth 100000
instance : Und Tryz.prog 3 (.int .i64) := ⟨by kernel_rfl⟩
instance : Zro Tryz.prog 5 [(.int .u8 0)] := zro_of (v := (.int .u8 0)) (by kernel_rfl) rfl
instance : Und Tryz.prog 42 (.slice 5) := ⟨by kernel_rfl⟩
instance : Fun Tryz.prog 54 := fun_of (by kernel_rfl)
end Go.Proofs.YtpiegpegjbmlkaaGreatDoor
namespace Go.Kd
theorem Own.shape0 {w : World} {base el sz : Nat} {v : Value} {ls : List (List Value)} (h : Own w base el sz v ls) : ∃ a cp, v = .slice a ls.length cp ∧ ls.length ≤ cp ∧ ∀ i l (j : Nat) u, ls[i]? = some l → l[j]? = some u → ∃ g, a = some ⟨g, 0, none⟩ ∧ w.cell? ⟨g, i * sz + j, none⟩ = some u := by
  rcases h.row.2 with ⟨h1, h2⟩ | ⟨g, cap, cur, h1, h2, h3, h4, h5, h6, h7⟩
  · exact ⟨none, 0, by rw [h1, h2], by omega, fun i l j u hi => by have := (List.getElem?_eq_some_iff.1 hi).1; omega⟩
  · refine ⟨_, cap, h1, h4, fun i l j u hi hu => ⟨g, rfl, ?_⟩⟩
    have hlt := (List.getElem?_eq_some_iff.1 hi).1
    have hl := h.each _ (List.mem_of_getElem? hi)
    have hj : j < sz := by rw [← hl]; exact (List.getElem?_eq_some_iff.1 hu).1
    have h8 := flat_at ls h.each i _ j u hi hu
    rw [← h7, List.getElem?_take_of_lt (by calc i * sz + j < i * sz + sz := by omega
      _ = (i + 1) * sz := by rw [Nat.succ_mul]
      _ ≤ ls.length * sz := Nat.mul_le_mul_right _ (by omega))] at h8
    exact cell_of ⟨h3⟩ (by simpa using h8)
end Go.Kd
namespace Go.Proofs.YtpiegpegjbmlkaaGreatDoor
open Go Go.Kd
set_option maxRecDepth 100000

theorem c_StrField (b : Nat) (ga : Nat) (n fc : Nat) (x : Value) (i : Nat) (f : Nat) (w : World) (h : Has w b (.cells #[.slice (some ⟨ga, 0, none⟩) n fc, x] 98)) (hi : i < n) (hc : w.cell? ⟨ga, 0 + i * 1, none⟩ = some (pt f)) : Calls Tryz.prog 54 #[pt b, .int .i64 i] w (Ret fun r w' => r = pt f ∧ w = w') := by
  refine W.enter (args := [pt b, .int .i64 i]) Tryz.func54 rfl Tryz.ntmps54 rfl rfl ?_
  refine zst ?_
  refine WU.yld rfl rfl rfl (yld_load_c rfl hc) ?_
  refine zst ?_
  exact fin1 (.inl rfl) rfl rfl ⟨rfl, rfl⟩
abbrev ptL (vb : Nat → Nat) (k : Nat) : List (List Value) := (List.range k).map fun i => [pt (vb i)]
theorem ptL_succ (vb : Nat → Nat) (k : Nat) : ptL vb (k + 1) = ptL vb k ++ [[pt (vb k)]] := by simp [ptL, List.range_succ]
theorem ptL_len (vb : Nat → Nat) (k : Nat) : (ptL vb k).length = k := by simp [ptL]
theorem ptL_at (vb : Nat → Nat) {k i : Nat} (h : i < k) : (ptL vb k)[i]? = some [pt (vb i)] := by simp [ptL, List.getElem?_range h]
set_option maxHeartbeats 4000000 in
theorem c_iOffsetsof {D : List De} {t : Ty} {l : List (Int × Int)} {a : Option Addr} {cp : Nat} {a1 : Option Addr} {c1 : Nat} {w : World} {wd mx : Int} (hp : Prp w) (hbz : Bsz w) (hW : OkW wd mx) (hV : ValidD D) (hT : ValidT D t) (hwd : wtD D ≤ 16777216) (hwt : wt t ≤ 16777216) (hRD : RngD D) (hR : Rng t) (hk : t.kind = 7) (hl : l.length = t.elems.length)
    (hz : ∀ (i : Nat) e q, t.elems[i]? = some e → l[i]? = some q → Sz D wd mx e q.1 q.2) (hd : DsV w (fun b => b < w.heap.size) (.slice a D.length cp) D) (ht : TysV w (fun b => b < w.heap.size) a1 c1 t.elems) :
    Calls Tryz.prog 33 #[.slice a D.length cp, .int .i64 wd, .int .i64 mx, .agg (tyc t a1 c1).toArray] w (Ret fun r w' => (∃ b zs, r = .slice (some ⟨b, 0, none⟩) t.elems.length t.elems.length ∧ zs.length = t.elems.length ∧ Has w' b (.cells (zs.map fun z => Value.int .i64 z).toArray 2) ∧ zal zs (offsI 0 l) t.elems.length) ∧ Ext w w') := by
  refine W.enter (args := [.slice a D.length cp, .int .i64 wd, .int .i64 mx, .agg (tyc t a1 c1).toArray]) Tryz.func33 rfl Tryz.ntmps33 rfl rfl ?_
  refine zst ?_
  refine WU.stp rfl rfl rfl (by first | exact stp_box rfl rfl | exact stp_box1 rfl rfl) ?_
  rintro _ w1 ⟨b1, rfl, n1⟩
  refine zst ?_
  have ib1 : Has w1 b1 (.cells (tyc t a1 c1).toArray 26) := n1.has
  have rR : ∀ w : World, Kp b1 t a1 c1 w w := fun w h => h
  have rT : ∀ u v x : World, Kp b1 t a1 c1 u v → Kp b1 t a1 c1 v x → Kp b1 t a1 c1 u x := fun _ _ _ h k x => k (h x)
  refine W.regX2 (Kp b1 t a1 c1) ?_
  intro w2 x2 _
  have ib2 := ib1.ext' x2
  have x02 : Ext w w2 := n1.ext.trans x2
  have z02 := x02.size
  have hb1 := ib1.lt
  clear n1
  refine WX.lin rR rT [(0, .q), (2, .q), (1, .l), (3, .l), (4, .l), (5, .q), (6, .q), (7, .q), (8, .q), (9, .q), (10, .q)] (by kernel_rfl) (by kernel_rfl) rfl ?_
  refine WR.yld rR rfl rfl rfl rfl (fun w' _ => zyl) ?_
  refine WR.yld rR rfl rfl rfl rfl (fun w' hk => by have i1 := hk ib2; exact yld_load_cells rfl (Cells.has i1)) ?_
  refine WR.stp rfl rfl rfl rfl (stp_call rfl (c_build' (hp.ext x02) hV hwd (hd.ext x02) fun b hb => by omega)) ?_
  rintro _ w4 ⟨K, s, bb, rfl, hKD, hKN, x4, hB⟩
  refine ⟨fun h => h.ext' x4, ?_⟩
  have x04 := x02.trans x4
  have z4 := x4.size
  subst hKD
  refine WR.stp rfl rfl rfl rfl (stp_call rfl (c_of hB (p := fun b => b < w.heap.size) (cs := tyc t a1 c1) (t := t) ((TyV.of_tys ht).ext x04) (fun b hb => ⟨by omega, by omega⟩) ⟨true, hT.sh⟩ hT.lg (by show _ ≤ 268435456; omega))) ?_
  rintro _ w5 ⟨s5, hg5, st5, hB5, rt5, T, rb, rfl⟩
  refine ⟨fun h => Has.sta st5 h, ?_⟩
  have x05 := ext_sta x04 (by omega) st5
  have hgd := hT.good hwt
  refine WR.stp rfl rfl rfl rfl (und_val hB5.ic hB5.bi.sll (Ext.rfl' w5) hgd rt5 rfl) ?_
  rintro _ _ ⟨rfl, y, Ty, b, rfl, hy, hyl, hyu⟩
  refine ⟨fun h => h, ?_⟩
  have hu : underT K.D t = t := by rw [under_lit (by omega) (by omega), norm_named (by omega)]
  rw [hu] at hyu
  cases lit_cases hy hyl with
  | basic nb hT' h0 h1 h2 hb => have := (norm_bas h0 h1 h2).1; rw [← hyu] at this; omega
  | iface _ h9 => rw [← hyu] at h9; omega
  | word _ h9 => rw [norm_named (by omega)] at hyu; rw [← hyu] at h9; omega
  | slice _ h9 => rw [norm_named (by omega)] at hyu; rw [← hyu] at h9; omega
  | array _ _ _ h9 => rw [norm_named (by omega)] at hyu; rw [← hyu] at h9; omega
  | struct fa fc tv vb vv hT' h9 hf hb =>
  subst hT'
  rw [norm_named (by omega)] at hyu
  subst hyu
  have hlen := wt_len t
  refine WR.yld rR rfl rfl rfl rfl (fun w' _ => zyl) ?_
  refine WR.yld rR rfl rfl rfl rfl (fun w' _ => zyl) ?_
  refine WR.yld rR rfl rfl rfl rfl (fun w' _ => zyl) ?_
  refine WR.yld rR rfl rfl rfl rfl (fun w' _ => zyl) ?_
  refine WR.yld rR rfl rfl rfl rfl (fun w' _ => zyl) ?_
  refine WR.yld rR rfl rfl rfl rfl (fun w' _ => zyl) ?_
  refine WR.nilk ?_
  refine zst ?_
  refine WU.stp rfl rfl rfl (stp_call rfl (c_NumFlds b fa t.elems.length fc tv w5 hb)) ?_
  rintro _ _ ⟨rfl, rfl⟩
  refine zst ?_
  refine W.loop (σ := Nat × Value) (fun (k, v) => [(26, .int .i64 k), (25, .int .i64 t.elems.length), (9, pt b), (11, v), (1, .int .i64 wd), (2, .int .i64 mx)])
    (fun (k, v) D' wk => D' = [] ∧ k ≤ t.elems.length ∧ Ext w5 wk ∧ Own wk w5.heap.size 80 1 v (ptL vb k)) (fun (k, _) => t.elems.length - k) (0, .slice none 0 0) ⟨rfl, Nat.zero_le _, Ext.rfl' _, Own.nil ..⟩ (by exact sub_of ⟨rfl, rfl, rfl, rfl, rfl, rfl, trivial⟩) ?_
  rintro ⟨k, v⟩ D' wr ⟨rfl, hk', xr, ho⟩
  have hsz := xr.size
  refine zst ?_
  by_cases hlt : k < t.elems.length
  · rw [show decide ((k : Int) < (t.elems.length : Int)) = true by simpa using hlt]
    obtain ⟨fb, rfl, hfc⟩ := hf.cell k hlt
    refine zst ?_
    refine WU.stp rfl rfl rfl (stp_call rfl (c_StrField b fb t.elems.length fc tv k (vb k) wr (hb.ext' xr) hlt (xr.cell hfc))) ?_
    rintro _ _ ⟨rfl, rfl⟩
    refine WU.stp rfl rfl rfl (stp_buildSlice rfl rfl rfl rfl rfl) ?_
    rintro _ w7 ⟨b7, rfl, n7⟩
    refine WU.stp rfl rfl rfl (stp_append_cell rfl rfl (ho.ext n7.ext) (cell_of n7.has rfl) rfl (by rw [ptL_len]; omega) (by have := n7.ext.size; omega)) ?_
    rintro v8 w8 ⟨h1, h2, h3⟩
    have y8 := h2.ext (ho.ext n7.ext) (xr.trans n7.ext) (Nat.le_refl _)
    refine zst ?_
    exact ⟨(k + 1, v8), by show t.elems.length - (k + 1) < t.elems.length - k; omega, ⟨rfl, by omega, y8, by rw [ptL_succ]; exact h1⟩, sub_of ⟨rfl, rfl, rfl, rfl, rfl, rfl, trivial⟩⟩
  · rw [show decide ((k : Int) < (t.elems.length : Int)) = false by simpa using hlt]
    obtain rfl : k = t.elems.length := by omega
    refine zst ?_
    refine WU.stp rfl rfl rfl (by first | exact stp_box rfl rfl | exact stp_box1 rfl rfl) ?_
    rintro _ w8 ⟨b8, rfl, n8⟩
    have x8 := xr.trans n8.ext
    obtain ⟨va, vc, rfl, hvc, hvo⟩ := (ho.ext n8.ext).shape0
    rw [ptL_len] at hvc ⊢
    have hFV : FldsV K s5 w8 w8 va t.elems vb vv := ⟨fun i hi => by
      obtain ⟨g, h1, h2⟩ := hvo i _ 0 _ (ptL_at vb hi) rfl
      exact ⟨g, h1, by rw [Nat.zero_add]; exact h2⟩, fun i e he => by
      obtain ⟨h1, pk, kd, em, h2⟩ := hf.fld i e he
      exact ⟨h1.ext x8, pk, kd, em, h2.ext' x8⟩⟩
    have hpb : Has w8 b8 (.cells (szl wd mx).toArray 65) := n8.has
    have hS : StC K s5 w8 b8 wd mx := ⟨hB5.ic.ext x8, fun d hd => by have := hB5.bi.sll d hd; have := x8.size; omega, hbz.ext (x05.trans x8), hpb, hW⟩
    have hok := hB5.ic.ok
    refine zst ?_
    refine WU.stp rfl rfl rfl (stp_call rfl (c_gOffsetsof hS (Ext.rfl' w8) hFV (by omega) hl (fun i q hq => by have hlt' := (List.getElem?_eq_some_iff.1 hq).1; exact (hz i _ q (List.getElem?_eq_getElem (by omega)) hq).ok hW) fun i e q he hq => c_gSzAl hS hRD (hz i e q he hq) (hgd.el he) (hR.el i e he))) ?_
    rintro r w9 ⟨hr, x9⟩
    refine zst ?_
    exact fin1 (.inl rfl) rfl rfl ⟨hr, x05.trans (x8.trans x9)⟩
end Go.Proofs.YtpiegpegjbmlkaaGreatDoor
namespace Go.Proofs.YtpiegpegjbmlkaaGreatDoor.Law
open Go Go.Kd
set_option maxRecDepth 100000

theorem sz_elems {D : List De} {wd mx : Int} {t : Ty} {s a : Int} (hk : t.kind = 7) (h : Sz D wd mx t s a) : ∃ l : List (Int × Int), l.length = t.elems.length ∧ (∀ (i : Nat) e q, t.elems[i]? = some e → l[i]? = some q → Sz D wd mx e q.1 q.2) ∧ s = strSz 0 l ∧ a = maxA 1 l := by
  have hu : underT D t = t := by rw [under_lit (by omega) (by omega), norm_named (by omega)]
  cases h with
  | basic _ h => rw [hu] at h; omega
  | slice _ h => rw [hu] at h; omega
  | iface _ h => rw [hu] at h; omega
  | word _ h => rw [hu] at h; omega
  | arr _ _ _ _ h => rw [hu] at h; omega
  | str _ l h1 h2 h3 => rw [hu] at h2 h3; exact ⟨l, h2, h3, rfl, rfl⟩
theorem sumI_inv {x y : Int} (h : 0 ≤ sumI x y) : 0 ≤ x ∧ 0 ≤ y ∧ sumI x y = x + y ∧ x + y ≤ 9223372036854775807 := by
  unfold sumI at *
  split at h
  · omega
  · rename_i h0
    unfold mxI at h0
    rw [if_neg (by unfold mxI; omega)]
    omega
theorem upI_inv {x a : Int} (ha : okA a) (h : 0 ≤ upI x a) : 0 ≤ x ∧ x ≤ upI x a ∧ upI x a % a = 0 := by
  unfold upI at *
  split at h
  · omega
  · rename_i h0
    rw [if_neg h0]
    have h1 := sumI_inv h
    rw [h1.2.2.1]
    unfold okA at ha
    rcases ha with rfl | rfl | rfl | rfl <;> omega
theorem strSz_neg : ∀ (l : List (Int × Int)) {m : Int}, m < 0 → strSz m l < 0
  | [], _, h => h
  | (_, _) :: r, _, h => strSz_neg r (by rw [upI_neg h, sumI_neg (.inl (by decide))]; decide)
theorem strSz_app : ∀ (l r : List (Int × Int)) (m : Int), strSz m (l ++ r) = strSz (strSz m l) r
  | [], _, _ => rfl
  | (_, _) :: l, r, _ => strSz_app l r _
theorem strSz_take {l : List (Int × Int)} (h : 0 ≤ strSz 0 l) (k : Nat) : 0 ≤ strSz 0 (l.take k) := by
  rw [← List.take_append_drop k l, strSz_app] at h
  by_cases hn : strSz 0 (l.take k) < 0
  · have := strSz_neg (l.drop k) hn
    omega
  · omega
/-- field k: behind what is ahead of it, at a multiple of its alignment -/
theorem off_at {l : List (Int × Int)} (h : 0 ≤ strSz 0 l) {k : Nat} {q : Int × Int} (hq : l[k]? = some q) (ha : okA q.2) : ∃ o, (offsI 0 l)[k]? = some o ∧ 0 ≤ o ∧ strSz 0 (l.take k) ≤ o ∧ o % q.2 = 0 ∧ 0 ≤ q.1 ∧ strSz 0 (l.take (k + 1)) = o + q.1 ∧ o + q.1 ≤ 9223372036854775807 := by
  refine ⟨_, offsI_at l k hq, ?_⟩
  have h1 := strSz_take h (k + 1)
  rw [show l.take (k + 1) = l.take k ++ [q] by rw [List.take_add_one, hq]; rfl, strSz_last] at h1 ⊢
  obtain ⟨k1, k2, k3, k4⟩ := sumI_inv h1
  obtain ⟨k5, k6, k7⟩ := upI_inv ha k1
  exact ⟨k1, k6, k7, k2, k3, k4⟩
theorem alk_eq {z s : Int} (h : alk z s) (h0 : 0 ≤ s) : z = s := by obtain ⟨h, _⟩ := h; unfold alikeS at h; omega
end Go.Proofs.YtpiegpegjbmlkaaGreatDoor.Law
namespace Go.Proofs.YtpiegpegjbmlkaaGreatDoor.Law
open Go Go.Kd
set_option maxRecDepth 100000

/-- a type as a field -/
def fldT (nm : ByteArray) (t : Ty) : Ty := .mk t.kind t.n t.count t.vr t.elems nm eB false
theorem Eqv.fldT (nm : ByteArray) (t : Ty) : Eqv t (fldT nm t) := ⟨rfl, rfl, rfl, rfl, rfl⟩
theorem wt_fldT (nm : ByteArray) (t : Ty) : wt (fldT nm t) ≤ wt t + nm.size := by rw [wt_eq t, wt_eq]; show 1 + (nm.size + 0) + _ ≤ _; simp only [Law.fldT, Ty.elems]; omega
theorem n_field {nm : ByteArray} {v : Value} {t : Ty} {w : World} {p : Nat → Prop} (h : TvP w p v t) : Calls Tryz.prog 20 #[.string nm, v, .string E0] w (Ret fun r w' => TvP w' p r (fldT nm t) ∧ Ext w w') := by
  obtain ⟨a, c, rfl, ht⟩ := h.ex
  exact (c_field nm E0 t.kind t.n t.count t.vr a t.elems.length c t.name t.tag t.emb w).mono fun _ _ ⟨r, e, h, x⟩ => ⟨r, e, ⟨a, c, h, ht.ext x⟩, x⟩
theorem t_field {nm : ByteArray} {v : Value} {t : Ty} {w : World} (h : TvV w v t) : Calls Tryz.prog 20 #[.string nm, v, .string E0] w (Ret fun r w' => TvV w' r (fldT nm t) ∧ Ext w w') :=
  (n_field h).mono fun _ _ ⟨r, e, h, x⟩ => ⟨r, e, h.mono fun b hb => by have := x.size; omega, x⟩
theorem t_of2 {k n : Int} {t u : Ty} {v v' : Value} {a1 a2 : Option Addr} {c1 c2 r : Nat} {w : World} (hr : Has w r (.cells (tyc t a1 c1 ++ tyc u a2 c2).toArray 26)) (hv : v = .agg (tyc t a1 c1).toArray) (hv' : v' = .agg (tyc u a2 c2).toArray) (T : TvV w v t) (T' : TvV w v' u) :
    Calls Tryz.prog 19 #[.int .i64 k, .int .i64 n, .slice (some ⟨r, 0, none⟩) 2 2] w (Ret fun q w' => TvV w' q (ndT k n [t, u]) ∧ Ext w w') := by
  subst hv hv'
  exact (c_of k n (some ⟨r, 0, none⟩) 2 2 w).mono fun _ _ ⟨q, e, h, x⟩ => ⟨q, e, ⟨_, _, h, ((tys_pair hr hr.lt T.tys T'.tys).ext x).mono fun b hb => by have := x.size; omega⟩, x⟩
theorem under_nd {D : List De} {k n : Int} {l : List Ty} (h0 : k ≠ 0) (h1 : k ≠ 1) : underT D (ndT k n l) = ndT k n l := by
  have hk : (ndT k n l).kind = k := rfl
  rw [under_lit (by omega) (by omega), norm_named (by omega)]
end Go.Proofs.YtpiegpegjbmlkaaGreatDoor.Law
namespace Go.Proofs.YtpiegpegjbmlkaaGreatDoor.Law
open Go Go.Kd
set_option maxRecDepth 100000

/-- the name of field i -/
def nmI (i : Nat) : ByteArray := ⟨#[UInt8.ofNat (65 + i)]⟩
theorem nmI_list (i : Nat) : (nmI i).toList = [UInt8.ofNat (65 + i)] := by rw [Lib.toList_data]; rfl
theorem u8_nat {i : Nat} (h : i < 26) : (UInt8.ofNat (65 + i)).toNat = 65 + i := by simp; omega
theorem letter_up {c : UInt8} (h1 : 65 ≤ c.toNat) (h2 : c.toNat ≤ 90) : letter c = true := by
  have h : ∀ n : Fin 26, letter (UInt8.ofNat (65 + n.1)) = true := by decide
  have hn : c.toNat - 65 < 26 := by omega
  have e : c = UInt8.ofNat (65 + (c.toNat - 65)) := UInt8.toNat_inj.1 (by rw [u8_nat hn]; omega)
  rw [e]
  exact h ⟨c.toNat - 65, hn⟩
theorem nmI_ident {i : Nat} (h : i < 26) : Ident (nmI i).toList ∧ (nmI i).toList ≠ us := by
  rw [nmI_list]
  have h8 := u8_nat h
  refine ⟨⟨by simp, .inr fun j c hc => ?_⟩, fun he => ?_⟩
  · match j with
    | 0 =>
      have hc : UInt8.ofNat (65 + i) = c := Option.some.inj hc
      rw [← hc]
      exact .inl (letter_up (by omega) (by omega))
    | j + 1 => simp at hc
  · have : UInt8.ofNat (65 + i) = 95 := by simpa [us] using he
    rw [this] at h8
    have : (95 : UInt8).toNat = 95 := rfl
    omega
theorem nmI_inj {i j : Nat} (hi : i < 26) (hj : j < 26) (h : (nmI i).toList = (nmI j).toList) : i = j := by
  rw [nmI_list, nmI_list] at h
  have h1 := u8_nat hi
  have h2 := u8_nat hj
  have : UInt8.ofNat (65 + i) = UInt8.ofNat (65 + j) := by simpa using h
  rw [this] at h1
  omega
/-- fields of these types, from name i on -/
def flds : Nat → List Ty → List Ty
  | _, [] => []
  | i, t :: l => fldT (nmI i) t :: flds (i + 1) l
def stT (l : List Ty) : Ty := ndT 7 0 (flds 0 l)
theorem flds_len : ∀ (l : List Ty) (i : Nat), (flds i l).length = l.length
  | [], _ => rfl
  | t :: l, i => by simp only [flds, List.length_cons, flds_len l]
theorem flds_at : ∀ (l : List Ty) (i j : Nat) (e : Ty), (flds i l)[j]? = some e → ∃ t, l[j]? = some t ∧ e = fldT (nmI (i + j)) t
  | [], _, _, _, h => by simp [flds] at h
  | t :: l, i, 0, e, h => by simp [flds] at h; exact ⟨t, rfl, h.symm⟩
  | t :: l, i, j + 1, e, h => by
    obtain ⟨u, h1, h2⟩ := flds_at l (i + 1) j e (by simpa [flds] using h)
    exact ⟨u, by simpa using h1, by rw [h2, show i + (j + 1) = i + 1 + j by omega]⟩
theorem flds_app : ∀ (l : List Ty) (i : Nat) (t : Ty), flds i (l ++ [t]) = flds i l ++ [fldT (nmI (i + l.length)) t]
  | [], _, _ => rfl
  | u :: l, i, t => by simp only [List.cons_append, flds, flds_app l, List.length_cons]; rw [show i + 1 + l.length = i + (l.length + 1) by omega]
theorem names_flds {l : List Ty} {j : Nat} {s : List UInt8} (h : (names (flds 0 l))[j]? = some s) : j < l.length ∧ s = (nmI j).toList := by
  unfold names at h
  rw [List.getElem?_map, Option.map_eq_some_iff] at h
  obtain ⟨e, h1, h2⟩ := h
  obtain ⟨t, h3, h4⟩ := flds_at l 0 j e h1
  refine ⟨(List.getElem?_eq_some_iff.1 h3).1, ?_⟩
  rw [← h2, h4, Nat.zero_add]
  rfl
theorem valid_stT {D : List De} {l : List Ty} (h : ∀ t ∈ l, ValidT D t) (hl : l.length ≤ 26) : ValidT D (stT l) := by
  have he : ∀ (j : Nat) e, (stT l).elems[j]? = some e → ∃ t n, t ∈ l ∧ e = fldT n t := fun j e he => by
    obtain ⟨t, h1, h2⟩ := flds_at l 0 j e he
    exact ⟨t, _, List.mem_of_getElem? h1, h2⟩
  have hk : (stT l).kind = 7 := rfl
  have hn : (stT l).n = 0 := rfl
  refine ⟨.mk _ _ ⟨by omega, by omega, fun hl => ?_, fun _ => by omega, fun _ => ?_, fun _ => by omega, fun _ => by omega, fun _ => by omega, fun _ => by omega, fun _ => by omega⟩ fun j e hj => ?_, .mk _ (fun j e hj => ?_) ⟨fun _ => by omega, fun _ i e hi he' => ?_, fun _ => ?_, fun _ => by omega, fun _ => by omega, fun _ => by omega, fun _ => by omega, fun _ => by omega⟩⟩
  · rw [hk] at hl; simp [elemsN] at hl
  · rw [hk, hn]; simp [limitN]
  · obtain ⟨t, n, ht, rfl⟩ := he j e hj
    exact ((Eqv.fldT n t).shaped (h t ht).sh).any _
  · obtain ⟨t, n, ht, rfl⟩ := he j e hj
    exact (Eqv.fldT n t).legal (h t ht).lg
  · obtain ⟨t, n, ht, rfl⟩ := he i e hi
    cases he'
  · refine ⟨fun i s hs => ?_, fun i j s hij h1 h2 => ?_⟩
    · obtain ⟨h1, rfl⟩ := names_flds hs
      exact (nmI_ident (by omega)).1
    · obtain ⟨k1, k2⟩ := names_flds h1
      obtain ⟨k3, k4⟩ := names_flds h2
      have := nmI_inj (i := i) (j := j) (by omega) (by omega) (k2.symm.trans k4)
      omega
theorem rng_stT {l : List Ty} (h : ∀ t ∈ l, Rng t) : Rng (stT l) := .mk _ (by show (0 : Int) ≤ _; decide) fun i e he => by
  obtain ⟨t, h1, h2⟩ := flds_at l 0 i e he
  have := h t (List.mem_of_getElem? h1)
  rw [h2]
  exact .mk _ this.n this.el
theorem sz_fld {D : List De} {wd mx s a : Int} {t : Ty} (nm : ByteArray) (h : Sz D wd mx t s a) : Sz D wd mx (fldT nm t) s a := by
  have hu := (Eqv.fldT nm t).under (D := D)
  cases h with
  | basic _ hk => rw [hu.n]; exact .basic _ (by rw [← hu.kd]; exact hk)
  | slice _ hk => exact .slice _ (by rw [← hu.kd]; exact hk)
  | iface _ hk => exact .iface _ (by rw [← hu.kd]; exact hk)
  | word _ hk => exact .word _ (by rw [← hu.kd]; exact hk)
  | arr _ e s a hk he hz => rw [hu.n]; exact .arr _ e s a (by rw [← hu.kd]; exact hk) (by rw [← hu.el]; exact he) hz
  | str _ l hk hl hz => exact .str _ l (by rw [← hu.kd]; exact hk) (by rw [← hu.el]; exact hl) (by rw [← hu.el]; exact hz)
theorem sz_elT {D : List De} {wd mx s a : Int} {t : Ty} (h : Sz D wd mx t s a) : Sz D wd mx (elT t) s a := by
  have := sz_fld eB h
  exact this
theorem sz_stT {D : List De} {wd mx : Int} {l : List Ty} {ps : List (Int × Int)} (hl : ps.length = l.length) (h : ∀ (i : Nat) t q, l[i]? = some t → ps[i]? = some q → Sz D wd mx t q.1 q.2) : Sz D wd mx (stT l) (strSz 0 ps) (maxA 1 ps) := by
  have hu : underT D (stT l) = stT l := under_nd (by decide) (by decide)
  refine .str _ ps (by rw [hu]; rfl) (by rw [hu]; show ps.length = (flds 0 l).length; rw [flds_len, hl]) fun i e q he hq => ?_
  rw [hu] at he
  obtain ⟨t, h1, h2⟩ := flds_at l 0 i e he
  rw [h2]
  exact sz_fld _ (h i t q h1 hq)
theorem sz_arrT {D : List De} {wd mx s a n : Int} {t : Ty} (h : Sz D wd mx t s a) : Sz D wd mx (ndT 4 n [elT t]) (arrSz n s a) a := by
  have hu : underT D (ndT 4 n [elT t]) = ndT 4 n [elT t] := under_nd (by decide) (by decide)
  have := Sz.arr (D := D) (wd := wd) (mx := mx) (ndT 4 n [elT t]) (elT t) s a (by rw [hu]; rfl) (by rw [hu]; rfl) (sz_elT h)
  rw [hu] at this
  exact this
theorem rng_arrT {n : Int} {t : Ty} (hn : n ≤ 9223372036854775807) (h : Rng t) : Rng (ndT 4 n [elT t]) := .mk _ hn fun i e he => by
  have he : [elT t][i]? = some e := he
  match i with
  | 0 =>
    simp at he
    subst he
    exact .mk _ h.n h.el
  | i + 1 => simp at he
theorem wt_flds : ∀ (l : List Ty) (i : Nat), wts (flds i l) ≤ wts l + l.length
  | [], _ => by simp [flds, wts]
  | t :: l, i => by
    have h1 := wt_flds l (i + 1)
    have h2 := wt_fldT (nmI i) t
    have h3 : (nmI i).size = 1 := rfl
    simp only [flds, wts, List.length_cons]
    omega
theorem wt_stT (l : List Ty) : wt (stT l) ≤ 1 + wts l + l.length := by
  unfold stT
  rw [wt_nd]
  have := wt_flds l 0
  omega
theorem wt_arrT (n : Int) (t : Ty) : wt (ndT 4 n [elT t]) ≤ 1 + wt t := by rw [wt_nd]; have := wt_elT t; simp only [wts]; omega
/-- impl.Alignof, impl.Sizeof of a type -/
theorem t_Al {D : List De} {t : Ty} {s al wd mx : Int} {a : Option Addr} {cp : Nat} {v : Value} {w : World} (lw : LW D a cp w) (hbz : Bsz w) (hW : OkW wd mx) (hV : ValidD D) (hwd : wtD D ≤ 1048576) (hRD : RngD D) (h : TvV w v t) (hT : ValidT D t) (hw : wt t ≤ 16777216) (hR : Rng t) (hz : Sz D wd mx t s al) :
    Calls Tryz.prog 18 #[.slice a D.length cp, .int .i64 wd, .int .i64 mx, v] w (Ret fun r w' => r = .int .i64 al ∧ Ext w w') := by
  obtain ⟨a1, c1, rfl, ht⟩ := h.ex
  exact c_iAlignof lw.hp hbz hW hV hT (by omega) hw hRD hR hz lw.hd ht
theorem t_Sz {D : List De} {t : Ty} {s al wd mx : Int} {a : Option Addr} {cp : Nat} {v : Value} {w : World} (lw : LW D a cp w) (hbz : Bsz w) (hW : OkW wd mx) (hV : ValidD D) (hwd : wtD D ≤ 1048576) (hRD : RngD D) (h : TvV w v t) (hT : ValidT D t) (hw : wt t ≤ 16777216) (hR : Rng t) (hz : Sz D wd mx t s al) :
    Calls Tryz.prog 26 #[.slice a D.length cp, .int .i64 wd, .int .i64 mx, v] w (Ret fun r w' => (∃ z, r = .int .i64 z ∧ alk z s) ∧ Ext w w') := by
  obtain ⟨a1, c1, rfl, ht⟩ := h.ex
  exact c_iSizeof lw.hp hbz hW hV hT (by omega) hw hRD hR hz lw.hd ht
end Go.Proofs.YtpiegpegjbmlkaaGreatDoor.Law
namespace Go.Proofs.YtpiegpegjbmlkaaGreatDoor.Law
open Go Go.Kd
set_option maxRecDepth 100000

theorem up_mult {a s p : Int} (ha : okA a) (hs : 0 ≤ s) (hp : 0 ≤ p) (hpa : p % a = 0) (hu : upI s a ≤ 4611686018427387912) (hu0 : 0 ≤ upI s a) : upI (p + s) a = if p + upI s a ≤ 9223372036854775807 then p + upI s a else -1 := by
  have e1 : upI s a = s + (a - s % a) % a := by
    unfold upI at hu0 ⊢
    rw [if_neg (by omega)] at hu0 ⊢
    exact (sumI_inv hu0).2.2.1
  rw [e1] at hu hu0 ⊢
  unfold upI
  rw [if_neg (by omega)]
  unfold sumI mxI
  unfold okA at ha
  rcases ha with rfl | rfl | rfl | rfl <;> (split <;> split <;> omega)
theorem prod_eq {k u : Int} (hk : 0 ≤ k) (hu : 0 ≤ u) : prodI k u = if k * u ≤ 9223372036854775807 then k * u else -1 := by
  unfold prodI mxI
  by_cases h0 : k = 0
  · subst h0
    rw [if_neg (by omega), if_pos (by omega)]
  have h1 : u > 9223372036854775807 / k ↔ ¬ k * u ≤ 9223372036854775807 := by
    rw [gt_iff_lt, Int.ediv_lt_iff_lt_mul (by omega), Int.mul_comm]
    omega
  by_cases h : k * u ≤ 9223372036854775807
  · rw [if_pos h, if_neg (fun hc => by rcases hc with hc | hc | hc; omega; omega; exact h1.1 hc.2 h)]
  · rw [if_neg h, if_pos (.inr (.inr ⟨by omega, h1.2 h⟩))]
theorem up_small {a s : Int} (ha : okA a) (hs : 0 ≤ s ∧ s ≤ 4611686018427387904) : 0 ≤ upI s a ∧ upI s a ≤ 4611686018427387912 ∧ s ≤ upI s a ∧ upI s a % a = 0 := by
  unfold upI
  rw [if_neg (by omega)]
  unfold sumI mxI
  unfold okA at ha
  rcases ha with rfl | rfl | rfl | rfl <;> (split <;> omega)
theorem str_reps {s a : Int} (ha : okA a) (hs : 0 ≤ s ∧ s ≤ 4611686018427387904) : ∀ k : Nat, strSz 0 (List.replicate (k + 1) (s, a)) = if (k : Int) * upI s a + s ≤ 9223372036854775807 then (k : Int) * upI s a + s else -1
  | 0 => by
    have h : upI 0 a = 0 := by unfold okA at ha; rcases ha with rfl | rfl | rfl | rfl <;> decide
    show sumI (upI 0 a) s = _
    rw [h]
    unfold sumI mxI
    split <;> split <;> omega
  | k + 1 => by
    obtain ⟨u0, u1, u2, u3⟩ := up_small ha hs
    have ih := str_reps ha hs k
    have hp : 0 ≤ (k : Int) * upI s a := Int.mul_nonneg (by omega) u0
    have hpa : ((k : Int) * upI s a) % a = 0 := by rw [Int.mul_emod, u3, Int.mul_zero, Int.zero_emod]
    have hm := up_mult ha hs.1 hp hpa u1 u0
    have hk : ((k + 1 : Nat) : Int) * upI s a = (k : Int) * upI s a + upI s a := by rw [Int.natCast_succ, Int.add_mul, Int.one_mul]
    rw [List.replicate_succ', strSz_last, ih, hk]
    generalize (k : Int) * upI s a = p at *
    generalize upI s a = u at *
    by_cases h1 : p + s ≤ 9223372036854775807
    · rw [if_pos h1]
      show sumI (upI (p + s) a) s = _
      rw [hm]
      unfold sumI mxI
      split <;> split <;> split <;> omega
    · rw [if_neg h1, if_neg (by omega)]
      show sumI (upI (-1) a) s = _
      rw [upI_neg (by decide), sumI_neg (.inl (by decide))]
/-- an array of n elements has the size of a struct of n of them -/
theorem arr_str {s a : Int} (ha : okA a) (hs : -1 ≤ s ∧ s ≤ 4611686018427387904) (n : Nat) : alikeS (strSz 0 (List.replicate n (s, a))) (arrSz n s a) := by
  match n with
  | 0 => exact .inl rfl
  | k + 1 =>
    unfold arrSz
    rw [if_neg (by omega), show ((k + 1 : Nat) : Int) - 1 = k by omega]
    by_cases h0 : s < 0
    · right
      refine ⟨?_, by rw [sumI_neg (.inr h0)]; decide⟩
      rw [List.replicate_succ]
      show strSz (sumI (upI 0 a) s) (List.replicate k (s, a)) < 0
      exact strSz_neg _ (by rw [sumI_neg (.inr h0)]; decide)
    · left
      obtain ⟨u0, u1, u2, u3⟩ := up_small ha ⟨by omega, hs.2⟩
      have hp : 0 ≤ (k : Int) * upI s a := Int.mul_nonneg (by omega) u0
      rw [str_reps ha ⟨by omega, hs.2⟩, prod_eq (by omega) u0]
      generalize (k : Int) * upI s a = p at *
      unfold sumI mxI
      split <;> split <;> split <;> omega
theorem sz_reps {D : List De} {wd mx s al : Int} {t : Ty} (hz : Sz D wd mx t s al) (n : Nat) : ∃ al', Sz D wd mx (stT (List.replicate n t)) (strSz 0 (List.replicate n (s, al))) al' :=
  ⟨_, sz_stT (ps := List.replicate n (s, al)) (by simp) fun i u q hi hq => by
    have h1 := List.eq_of_mem_replicate (List.mem_of_getElem? hi)
    have h2 := List.eq_of_mem_replicate (List.mem_of_getElem? hq)
    rw [h1, h2]
    exact hz⟩
theorem wts_reps (t : Ty) : ∀ n, wts (List.replicate n t) = n * wt t
  | 0 => by simp [wts]
  | n + 1 => by rw [List.replicate_succ]; simp only [wts, wts_reps t n]; rw [Nat.succ_mul]; omega
end Go.Proofs.YtpiegpegjbmlkaaGreatDoor.Law
namespace Go.Proofs.YtpiegpegjbmlkaaGreatDoor
open Go Go.Kd
set_option maxRecDepth 100000

set_option maxHeartbeats 2000000 in
theorem c_iSizeofS {D : List De} {t : Ty} {l : List (Int × Int)} {a : Option Addr} {cp : Nat} {a1 : Option Addr} {c1 : Nat} {w : World} {wd mx : Int} (hp : Prp w) (hbz : Bsz w) (hW : OkW wd mx) (hV : ValidD D) (hT : ValidT D t) (hwd : wtD D ≤ 16777216) (hwt : wt t ≤ 134217728) (hk : t.kind = 7) (hwe : ∀ (i : Nat) e, t.elems[i]? = some e → wt e ≤ 16777216) (hl : l.length = t.elems.length) (hRD : RngD D) (hR : Rng t) (hq : ∀ (i : Nat) e q, t.elems[i]? = some e → l[i]? = some q → Sz D wd mx e q.1 q.2) (hd : DsV w (fun b => b < w.heap.size) (.slice a D.length cp) D) (ht : TysV w (fun b => b < w.heap.size) a1 c1 t.elems) :
    Calls Tryz.prog 26 #[.slice a D.length cp, .int .i64 wd, .int .i64 mx, .agg (tyc t a1 c1).toArray] w (Ret fun r w' => (∃ z, r = .int .i64 z ∧ alk z (strSz 0 l)) ∧ Ext w w') := by
  refine W.enter (args := [.slice a D.length cp, .int .i64 wd, .int .i64 mx, .agg (tyc t a1 c1).toArray]) Tryz.func26 rfl Tryz.ntmps26 rfl rfl ?_
  refine zst ?_
  refine WU.stp rfl rfl rfl (by first | exact stp_box rfl rfl | exact stp_box1 rfl rfl) ?_
  rintro _ w1 ⟨b1, rfl, n1⟩
  refine zst ?_
  have ib1 : Has w1 b1 (.cells (tyc t a1 c1).toArray 26) := n1.has
  have rR : ∀ w : World, Kp b1 t a1 c1 w w := fun w h => h
  have rT : ∀ u v x : World, Kp b1 t a1 c1 u v → Kp b1 t a1 c1 v x → Kp b1 t a1 c1 u x := fun _ _ _ h k x => k (h x)
  refine W.regX2 (Kp b1 t a1 c1) ?_
  intro w2 x2 _
  have ib2 := ib1.ext' x2
  have x02 : Ext w w2 := n1.ext.trans x2
  have z02 := x02.size
  have hb1 := ib1.lt
  clear n1
  refine WX.q rR rT 0 (by kernel_rfl) (by kernel_rfl) (by kernel_rfl) rfl rfl rfl rfl (fun w' _ => zyl) ?_
  refine WX.q rR rT 1 (by kernel_rfl) (by kernel_rfl) (by kernel_rfl) rfl rfl rfl rfl (fun w' _ => zyl) ?_
  refine WX.q rR rT 2 (by kernel_rfl) (by kernel_rfl) (by kernel_rfl) rfl rfl rfl rfl (fun w' _ => zyl) ?_
  refine WX.q rR rT 4 (by kernel_rfl) (by kernel_rfl) (by kernel_rfl) rfl rfl rfl rfl (fun w' _ => zyl) ?_
  refine WX.q rR rT 6 (by kernel_rfl) (by kernel_rfl) (by kernel_rfl) rfl rfl rfl rfl (fun w' hk => by have i1 := hk ib2; exact yld_load_cells rfl (Cells.has i1)) ?_
  -- what is done at the end
  have last : ∀ (w5 : World) (K : Cfg) (s : Gs) (pb T rb : Nat), K.D = D → Ext w w5 → IC K s w5 → (∀ d, s.sl d → d < w5.heap.size) → Has w5 pb (.cells (szl wd mx).toArray 65) → RT K s w5 s.sl (.iface T (pt rb)) t →
      Calls Tryz.prog 52 #[pt pb, .iface T (pt rb)] w5 (Ret fun r w' => (∃ z, r = .int .i64 z ∧ alk z (strSz 0 l)) ∧ Ext w5 w') := fun w5 K s pb T rb hKD x5 ic hsl hpb hrt => by
    subst hKD
    have hS : StC K s w5 pb wd mx := ⟨ic, hsl, hbz.ext x5, hpb, hW⟩
    have hlen := wt_len t
    have hlit : isLit t := ⟨by omega, by omega⟩
    cases lit_cases hrt hlit with
    | basic nb hT' h0 h1 h2 hb => omega
    | iface _ h9 => rw [norm_named (by omega)] at h9; omega
    | word _ h9 => omega
    | slice _ h9 => omega
    | array _ _ _ h9 => omega
    | struct fa fc tv vb vv hT' h9 hf hb =>
    subst hT'
    have hx := sz_str (v := .iface 75 (pt rb)) hS (Ext.rfl' w5) hf (by omega) hl (fun i q hi => by
      have hlt := (List.getElem?_eq_some_iff.1 hi).1
      exact (hq i _ q (List.getElem?_eq_getElem (by omega)) hi).ok hW) (fun i e q he hi => c_gSzAl hS hRD (hq i e q he hi) ((hT.el he).good (hwe i e he)) (hR.el i e he)) hb
    refine W.enter (args := [pt pb, .iface 75 (pt rb)]) Tryz.func52 rfl Tryz.ntmps52 rfl rfl ?_
    refine zst ?_
    refine WU.stp rfl rfl rfl (stp_und_lit (T := 75) (b := rb) (by unfold litT; decide) rfl) ?_
    rintro _ _ ⟨rfl, rfl⟩
    (repeat ((fail_if_success guard_target =~ gW (.block _ _)); refine zs1 ?_))
    exact W.useS hx rfl ⟨rfl, rfl, rfl, trivial⟩
  refine WX.two (i := 3) (j := 5) (by kernel_rfl) rfl rfl rfl rfl (stp_box (l := szl wd mx) rfl rfl) rfl rfl rfl rfl (stp_call rfl (c_build' (hp.ext x02) hV hwd (hd.ext x02) fun b hb => by omega)) ?_ ?_
  · rintro _ w3 ⟨pb, rfl, n3⟩
    refine ⟨fun h => h.ext' n3.ext, ?_⟩
    have x03 := x02.trans n3.ext
    have z3 := n3.ext.size
    have hpb := n3.has
    refine WX.lin rR rT [(5, .l), (7, .l), (8, .l), (9, .q)] (by kernel_rfl) (by kernel_rfl) rfl ?_
    refine WR.stp rfl rfl rfl rfl (stp_call rfl (c_build' (hp.ext x03) hV hwd (hd.ext x03) fun b hb => by omega)) ?_
    rintro _ w4 ⟨K, s, bb, rfl, hKD, hKN, x4, hB⟩
    refine ⟨fun h => h.ext' x4, ?_⟩
    have x04 := x03.trans x4
    have z4 := x4.size
    subst hKD
    refine WR.stp rfl rfl rfl rfl (stp_call rfl (c_of hB (p := fun b => b < w.heap.size) (cs := tyc t a1 c1) (t := t) ((TyV.of_tys ht).ext x04) (fun b hb => ⟨by omega, by omega⟩) ⟨true, hT.sh⟩ hT.lg (by show _ ≤ 268435456; omega))) ?_
    rintro _ w5 ⟨s5, hg5, st5, hB5, rt5, T, rb, rfl⟩
    refine ⟨fun h => Has.sta st5 h, ?_⟩
    have x05 := ext_sta x04 (by omega) st5
    have hpb5 := Has.sta st5 (hpb.ext' x4)
    refine WR.stp rfl rfl rfl rfl (stp_call rfl (last w5 K s5 pb T rb rfl x05 hB5.ic hB5.bi.sll hpb5 rt5)) ?_
    rintro r w6 ⟨hr, x6⟩
    refine ⟨fun h => h.ext' x6, ?_⟩
    refine WR.yld rR rfl rfl rfl rfl (fun w' _ => zyl) ?_
    refine WR.nilk ?_
    refine zst ?_
    exact fin1 (.inl rfl) rfl rfl ⟨hr, x05.trans x6⟩
  · rintro _ w3 ⟨K, s, bb, rfl, hKD, hKN, x3, hB⟩
    refine ⟨fun h => h.ext' x3, ?_⟩
    have x03 := x02.trans x3
    have z3 := x3.size
    subst hKD
    refine WX.two (i := 3) (j := 7) (by kernel_rfl) rfl rfl rfl rfl (stp_box (l := szl wd mx) rfl rfl) rfl rfl rfl rfl (stp_call rfl (c_of hB (p := fun b => b < w.heap.size) (cs := tyc t a1 c1) (t := t) ((TyV.of_tys ht).ext x03) (fun b hb => ⟨by omega, by omega⟩) ⟨true, hT.sh⟩ hT.lg (by show _ ≤ 268435456; omega))) ?_ ?_
    · rintro _ w4 ⟨pb, rfl, n4⟩
      refine ⟨fun h => h.ext' n4.ext, ?_⟩
      have x04 := x03.trans n4.ext
      have z4 := n4.ext.size
      refine WX.lin rR rT [(7, .l), (8, .l), (9, .q)] (by kernel_rfl) (by kernel_rfl) rfl ?_
      refine WR.stp rfl rfl rfl rfl (stp_call rfl (c_of (hB.ext n4.ext) (p := fun b => b < w.heap.size) (cs := tyc t a1 c1) (t := t) ((TyV.of_tys ht).ext x04) (fun b hb => ⟨by omega, by omega⟩) ⟨true, hT.sh⟩ hT.lg (by show _ ≤ 268435456; omega))) ?_
      rintro _ w5 ⟨s5, hg5, st5, hB5, rt5, T, rb, rfl⟩
      refine ⟨fun h => Has.sta st5 h, ?_⟩
      have x05 := ext_sta x04 (by omega) st5
      have hpb5 := Has.sta st5 n4.has
      refine WR.stp rfl rfl rfl rfl (stp_call rfl (last w5 K s5 pb T rb rfl x05 hB5.ic hB5.bi.sll hpb5 rt5)) ?_
      rintro r w6 ⟨hr, x6⟩
      refine ⟨fun h => h.ext' x6, ?_⟩
      refine WR.yld rR rfl rfl rfl rfl (fun w' _ => zyl) ?_
      refine WR.nilk ?_
      refine zst ?_
      exact fin1 (.inl rfl) rfl rfl ⟨hr, x05.trans x6⟩
    · rintro _ w4 ⟨s4, hg4, st4, hB4, rt4, T, rb, rfl⟩
      refine ⟨fun h => Has.sta st4 h, ?_⟩
      have x04 := ext_sta x03 (by omega) st4
      refine WX.lin rR rT [(3, .l), (8, .l), (9, .q)] (by kernel_rfl) (by kernel_rfl) rfl ?_
      refine WR.stp rfl rfl rfl rfl (stp_box (l := szl wd mx) rfl rfl) ?_
      rintro _ w5 ⟨pb, rfl, n5⟩
      refine ⟨fun h => h.ext' n5.ext, ?_⟩
      have x05 := x04.trans n5.ext
      refine WR.stp rfl rfl rfl rfl (stp_call rfl (last w5 K s4 pb T rb rfl x05 (hB4.ic.ext n5.ext) (fun d hd => by have := hB4.bi.sll d hd; have := n5.ext.size; omega) n5.has (rt4.ext n5.ext))) ?_
      rintro r w6 ⟨hr, x6⟩
      refine ⟨fun h => h.ext' x6, ?_⟩
      refine WR.yld rR rfl rfl rfl rfl (fun w' _ => zyl) ?_
      refine WR.nilk ?_
      refine zst ?_
      exact fin1 (.inl rfl) rfl rfl ⟨hr, x05.trans x6⟩
end Go.Proofs.YtpiegpegjbmlkaaGreatDoor
namespace Go.Kd
variable {P : Program} {e : Env} {w : World} {d : Option Tmp} {ty t t2 : TypeId} {pos : String} {aft : Array Edge} {g : Option (Nat × Bool)} {x : Operand}
theorem stp_bytes1 {el b o cap : Nat} {c : UInt8} [h1 : Und P t (.slice el)] [h2 : Und P el (.int .u8)] [h3 : Und P t2 .string] (hx : ev e x = some (.slice (some ⟨b, o, none⟩) 1 cap)) (hc : w.cell? ⟨b, o, none⟩ = some (.int .u8 (c.toNat : Int))) :
    Stp P e ⟨d, .convert t t2 x, ty, pos, aft, g⟩ w (fun r w' => r = .string ⟨#[c]⟩ ∧ w = w') := ⟨fun ρ hρ => by
  have hr := run_convert_bytes_back (P := P) w t t2 el ⟨b, o, none⟩ cap [c] h1.at_ h2.at_ h3.at_ fun j hj => by
    have : j = 0 := by simpa using hj
    subst this
    rw [Addr.add_mid]
    exact hc
  simp only [List.length_cons, List.length_nil, Nat.zero_add] at hr
  simp only [execOp, hρ x _ hx, hr, Sem.run_bind, Result.andThen_ok, Sem.run_pure]
  exact ⟨trivial, trivial⟩⟩
theorem Own.one {w : World} {base el sz : Nat} {v : Value} {ls : List (List Value)} (h : Own w base el sz v ls) : v.oneCell' = true := by
  obtain ⟨a, cp, rfl, _⟩ := h.shape
  rfl
end Go.Kd
namespace Go.Proofs.YtpiegpegjbmlkaaGreatDoor.Law
open Go Go.Kd
set_option maxRecDepth 100000

/-- k fields of one type, as cells -/
def rowsF (t : Ty) (a : Option Addr) (c k : Nat) : List (List Value) := (List.range k).map fun i => tyc (fldT (nmI i) t) a c
theorem rowsF_len (t : Ty) (a : Option Addr) (c k : Nat) : (rowsF t a c k).length = k := by simp [rowsF]
theorem rowsF_succ (t : Ty) (a : Option Addr) (c k : Nat) : rowsF t a c (k + 1) = rowsF t a c k ++ [tyc (fldT (nmI k) t) a c] := by simp [rowsF, List.range_succ]
theorem rowsF_at (t : Ty) (a : Option Addr) (c : Nat) {k i : Nat} (h : i < k) : (rowsF t a c k).getD i [] = tyc (fldT (nmI i) t) a c := by simp [rowsF, List.getD, List.getElem?_range h]
theorem flds_rep : ∀ (k m i : Nat) (t : Ty), i < k → (flds m (List.replicate k t))[i]? = some (fldT (nmI (m + i)) t)
  | 0, _, _, _, h => by omega
  | k + 1, m, 0, t, _ => rfl
  | k + 1, m, i + 1, t, h => by
    rw [List.replicate_succ]
    show (flds (m + 1) (List.replicate k t))[i]? = _
    rw [flds_rep k (m + 1) i t (by omega), show m + 1 + i = m + (i + 1) by omega]
theorem rowsF_tys {t : Ty} {a : Option Addr} {c k base : Nat} {v : Value} {w : World} (h : TysV w (fun b => b < w.heap.size) a c t.elems) (ho : Own w base 26 8 v (rowsF t a c k)) (_ : k ≤ 26) :
    ∃ fa fc, v = .slice fa k fc ∧ TysV w (fun b => b < w.heap.size) fa fc (stT (List.replicate k t)).elems := by
  obtain ⟨fa, fc, h1, h2, h3⟩ := ho.shape
  rw [rowsF_len] at h1 h2 h3
  have hl : (stT (List.replicate k t)).elems.length = k := by show (flds 0 (List.replicate k t)).length = k; rw [flds_len, List.length_replicate]
  refine ⟨fa, fc, h1, by rw [hl]; exact h2, fun i => tyc (fldT (nmI i) t) a c, fun i hi => ?_, fun i e he => ?_⟩
  · rw [hl] at hi
    obtain ⟨b, o, k1, k2, k3⟩ := h3 i hi
    simp only [rowsF_at _ _ _ hi] at k3
    exact ⟨b, o, k1, (ho.lt b k2).2, k3⟩
  · have hi : i < k := by rw [← hl]; exact (List.getElem?_eq_some_iff.1 he).1
    have he : (flds 0 (List.replicate k t))[i]? = some e := he
    rw [flds_rep k 0 i t hi, Nat.zero_add] at he
    cases he
    exact TyV.of_tys (t := fldT (nmI i) t) h
theorem alike_three {a b z y : Int} (h1 : alikeS z a) (h : alikeS a b) (h2 : alikeS y b) : alikeS z y := by unfold alikeS at *; omega
theorem el_reps {k i : Nat} {t e : Ty} (h : (stT (List.replicate k t)).elems[i]? = some e) : e = fldT (nmI i) t := by
  have h : (flds 0 (List.replicate k t))[i]? = some e := h
  have hl := (List.getElem?_eq_some_iff.1 h).1
  rw [flds_len, List.length_replicate] at hl
  rw [flds_rep k 0 i t hl, Nat.zero_add] at h
  exact (Option.some.inj h).symm
theorem len_reps (k : Nat) (t : Ty) : (stT (List.replicate k t)).elems.length = k := by show (flds 0 (List.replicate k t)).length = k; rw [flds_len, List.length_replicate]
theorem t_SzReps {D : List De} {t : Ty} {s al wd mx : Int} {a : Option Addr} {cp k : Nat} {v : Value} {w : World} (lw : LW D a cp w) (hbz : Bsz w) (hW : OkW wd mx) (hV : ValidD D) (hwd : wtD D ≤ 1048576) (hRD : RngD D) (h : TvV w v (stT (List.replicate k t))) (hT : ValidT D t) (hw : wt t ≤ 1048576) (hR : Rng t) (hk : k ≤ 26) (hz : Sz D wd mx t s al) :
    Calls Tryz.prog 26 #[.slice a D.length cp, .int .i64 wd, .int .i64 mx, v] w (Ret fun r w' => (∃ z, r = .int .i64 z ∧ alk z (strSz 0 (List.replicate k (s, al)))) ∧ Ext w w') := by
  obtain ⟨a1, c1, rfl, ht⟩ := h.ex
  refine c_iSizeofS lw.hp hbz hW hV (valid_stT (fun t ht => by rw [List.eq_of_mem_replicate ht]; exact hT) (by simp; omega)) (by omega) ?_ rfl (fun i e he => ?_) (by rw [len_reps, List.length_replicate]) hRD (rng_stT fun t ht => by rw [List.eq_of_mem_replicate ht]; exact hR) (fun i e q he hq => ?_) lw.hd ht
  · have h1 := wt_stT (List.replicate k t)
    rw [wts_reps, List.length_replicate] at h1
    have h2 : k * wt t ≤ 26 * 1048576 := Nat.mul_le_mul hk hw
    omega
  · rw [el_reps he]
    have h1 := wt_fldT (nmI i) t
    have h3 : (nmI i).size = 1 := rfl
    omega
  · rw [el_reps he, List.eq_of_mem_replicate (List.mem_of_getElem? hq)]
    exact sz_fld _ hz
end Go.Proofs.YtpiegpegjbmlkaaGreatDoor.Law
namespace Go.Proofs.YtpiegpegjbmlkaaGreatDoor.Law
open Go Go.Kd
set_option maxRecDepth 100000

set_option maxHeartbeats 4000000 in
theorem c_FnArrayStruct {D : List De} {a : Option Addr} {cp : Nat} {t1 : Ty} {a1 : Option Addr} {c1 : Nat} {i2 : Int} {q3 : Bool} {i4 : Int} {w : World} (hp : Prp w) (hbz : Bsz w) (_ : (-9223372036854775808 : Int) ≤ i2 ∧ i2 ≤ 9223372036854775807) (_ : (-9223372036854775808 : Int) ≤ i4 ∧ i4 ≤ 9223372036854775807) (hwd : wtD D ≤ 1048576) (hw1 : wt t1 ≤ 1048576) (hd : DsV w (fun b => b < w.heap.size) (.slice a D.length cp) D) (ht1 : TysV w (fun b => b < w.heap.size) a1 c1 t1.elems) (hRD : RngD D) (hR1 : Rng t1) :
    Calls Tryz.prog 6 #[.slice a D.length cp, .agg (tyc t1 a1 c1).toArray, .int .i64 i2, .bool q3, .int .i64 i4] w (Ret fun r w' => r = .bool true ∧ Ext w w') := by
  have hDl : D.length ≤ 16777216 := by have := len_wtD D; omega
  have lw : LW D a cp w := ⟨hp, hd⟩
  have T1 : TvV w (.agg (tyc t1 a1 c1).toArray) t1 := ⟨⟨_, _, rfl, ht1⟩⟩
  have x0 : Ext w w := Ext.rfl' w
  refine W.enter (args := [.slice a D.length cp, .agg (tyc t1 a1 c1).toArray, .int .i64 i2, .bool q3, .int .i64 i4]) Tryz.func6 rfl Tryz.ntmps6 rfl rfl ?_
  refine zst ?_
  refine WU.stp rfl rfl rfl (by first | exact stp_box rfl rfl | exact stp_box1 rfl rfl) ?_
  rintro _ w1 ⟨b1, rfl, n1⟩
  replace lw := lw.ext n1.ext
  replace hbz := hbz.ext n1.ext
  replace T1 := T1.ext n1.ext
  replace x0 := x0.trans n1.ext
  have ib1 : Has w1 b1 (.cells (tyc t1 a1 c1).toArray 26) := n1.has
  refine zst ?_
  rw [show decide ((2147483647 : Int) < (D.length : Int)) = false by simp; omega]
  refine zst ?_
  refine WU.stp rfl rfl rfl (stp_call rfl (c_zzFits1 t1 a1 c1 _ (by omega))) ?_
  rintro _ w2 ⟨rfl, x2⟩
  replace lw := lw.ext x2
  replace hbz := hbz.ext x2
  replace T1 := T1.ext x2
  replace ib1 := ib1.ext' x2
  replace x0 := x0.trans x2
  refine zst ?_
  refine WU.stp rfl rfl rfl (stp_buildSlice rfl rfl rfl rfl rfl) ?_
  rintro _ w3 ⟨r3, rfl, n3⟩
  replace lw := lw.ext n3.ext
  replace hbz := hbz.ext n3.ext
  replace T1 := T1.ext n3.ext
  replace ib1 := ib1.ext' n3.ext
  replace x0 := x0.trans n3.ext
  have hr : Has w3 r3 (.cells (tyc t1 a1 c1).toArray 26) := n3.has
  refine zst ?_
  refine WU.stp rfl rfl rfl (stp_call rfl (t_Valid1 lw hwd hr rfl T1 (by omega))) ?_
  rintro _ w4 ⟨v, rfl, hv, x4⟩
  replace lw := lw.ext x4
  replace hbz := hbz.ext x4
  replace T1 := T1.ext x4
  replace ib1 := ib1.ext' x4
  replace x0 := x0.trans x4
  cases v with
  | false =>
    refine zst ?_
    refine zst ?_
    exact fin1 (.inl rfl) rfl rfl ⟨rfl, x0⟩
  | true =>
    obtain ⟨hV, hT⟩ := hv rfl
    have hok := okD hV hwd
    have hG1 := hT.good (Nat.le_trans hw1 (by decide))
    obtain ⟨_, hc1⟩ := good_cmp hok hG1
    refine zst ?_
    refine WU.stp rfl rfl rfl (stp_call rfl (c_sizes q3 i4 w4)) ?_
    rintro _ w5 ⟨wd, mx, hW, rfl, x5⟩
    replace lw := lw.ext x5
    replace hbz := hbz.ext x5
    replace T1 := T1.ext x5
    replace ib1 := ib1.ext' x5
    replace x0 := x0.trans x5
    have hwd4 := hW.wd
    obtain ⟨s, al, hz⟩ := exists_sz hok wd mx hc1 hG1
    obtain ⟨hs1, hal⟩ := hz.ok hW
    refine zst ?_
    obtain ⟨n, hn, hn27⟩ : ∃ n : Nat, i2 % 27 = n ∧ n ≤ 26 := ⟨(i2 % 27).toNat, by omega, by omega⟩
    refine WU.stp rfl rfl rfl (stp_call rfl (c_place i2 27 w5 (by omega))) ?_
    rintro _ _ ⟨rfl, rfl⟩
    rw [hn]
    refine zst ?_
    refine WU.stp rfl rfl rfl stp_alloc ?_
    rintro _ w6 ⟨b6, rfl, n6⟩
    refine zst ?_
    refine WU.stp0 rfl rfl (stp_store_whole rfl rfl rfl rfl) ?_
    rintro _ w7 u7
    have is : szb w7 b6 wd mx := u7.has
    have y7 : Ext w5 w7 := (u7.ofNew n6).ext
    clear u7 n6
    replace lw := lw.ext y7
    replace hbz := hbz.ext y7
    replace T1 := T1.ext y7
    replace ib1 := ib1.ext' y7
    replace x0 := x0.trans y7
    refine zst ?_
    refine WU.stp rfl rfl rfl (stp_call rfl ((c_SzAl hok a cp hW hz hG1 hRD hR1).1 a1 c1 w7 _ (fun b hb => hb) lw.hd T1.tys)) ?_
    rintro _ w8 ⟨rfl, x8⟩
    replace lw := lw.ext x8
    replace hbz := hbz.ext x8
    replace T1 := T1.ext x8
    replace ib1 := ib1.ext' x8
    replace is := is.ext' x8
    replace x0 := x0.trans x8
    refine zst ?_
    by_cases hbig : 4611686018427387904 < s
    · rw [decide_eq_true hbig]
      refine zst ?_
      refine W.regD [(0, .q), (1, .q), (2, .q), (3, .q), (6, .q), (7, .q), (4, .l), (5, .l), (8, .q), (9, .q)] (by kernel_rfl) (by kernel_rfl) rfl ?_
      intro w9 x9 _
      replace lw := lw.ext x9
      replace hbz := hbz.ext x9
      replace T1 := T1.ext x9
      replace ib1 := ib1.ext' x9
      replace is := is.ext' x9
      replace x0 := x0.trans x9
      refine zsd ?_
      refine WD.stp rfl rfl rfl rfl (stp_call rfl (c_basic 1 w9)) ?_
      rintro _ w10 ⟨rfl, x10⟩
      refine ⟨by first | assumption | exact Ext.rfl' _ | infer_instance, ?_⟩
      replace lw := lw.ext x10
      replace hbz := hbz.ext x10
      replace T1 := T1.ext x10
      replace ib1 := ib1.ext' x10
      replace is := is.ext' x10
      replace x0 := x0.trans x10
      refine zsd ?_
      refine WD.stp rfl rfl rfl rfl (stp_call rfl (t_intSize lw.hp hbz hW)) ?_
      rintro _ w11 ⟨rfl, x11⟩
      refine ⟨by first | assumption | exact Ext.rfl' _ | infer_instance, ?_⟩
      replace lw := lw.ext x11
      replace hbz := hbz.ext x11
      replace T1 := T1.ext x11
      replace ib1 := ib1.ext' x11
      replace is := is.ext' x11
      replace x0 := x0.trans x11
      refine zsd ?_
      rw [show (wd == wd) = true by simp]
      refine zsd ?_
      refine zst ?_
      exact fin1 (.inl rfl) rfl rfl ⟨rfl, x0⟩
    rw [decide_eq_false hbig]
    refine zst ?_
    refine WU.stp rfl rfl rfl stp_alloc ?_
    rintro _ w9 ⟨b9, rfl, n9⟩
    refine zst ?_
    refine WU.stp0 rfl rfl (stp_store_whole rfl rfl rfl rfl) ?_
    rintro _ w10 u10
    refine zst ?_
    have it : Has w10 b9 (.cells (tyl 7 0 0 false (.slice none 0 0) E0 E0 false).toArray 26) := u10.has
    have y10 : Ext w8 w10 := (u10.ofNew n9).ext
    have en : b9 = w8.heap.size := n9.num
    have zn := it.lt
    clear u10 n9
    refine W.loop (σ := Nat × Value) (fun (k, _) => [(48, .int .i64 k), (47, .int .i64 n), (12, pt b9), (11, pt b6), (6, pt b1), (2, .int .i64 n), (0, .slice a D.length cp)])
      (fun (k, v) D' wk => D' = [] ∧ k ≤ n ∧ Ext w8 wk ∧ w10.heap.size ≤ wk.heap.size ∧ Has wk b9 (.cells (tyl 7 0 0 false v E0 E0 false).toArray 26) ∧ Own wk w10.heap.size 26 8 v (rowsF t1 a1 c1 k)) (fun (k, _) => n - k) (0, .slice none 0 0) ⟨rfl, Nat.zero_le _, y10, Nat.le_refl _, it, Own.nil ..⟩ (by exact sub_of ⟨rfl, rfl, rfl, rfl, rfl, rfl, rfl, trivial⟩) ?_
    rintro ⟨k, v⟩ D' w11 ⟨rfl, hk, x11, hzz, hit, ho⟩
    refine zst ?_
    by_cases hlt : k < n
    · rw [show decide ((k : Int) < (n : Int)) = true by simpa using hlt]
      refine zst ?_
      have ib := ib1.ext' x11
      obtain ⟨F, hFd⟩ : ∃ F : World → Prop, ∀ W, F W ↔ (Has W b1 (.cells (tyc t1 a1 c1).toArray 26) ∧ Has W b9 (.cells (tyl 7 0 0 false v E0 E0 false).toArray 26)) := ⟨fun W => (Has W b1 (.cells (tyc t1 a1 c1).toArray 26) ∧ Has W b9 (.cells (tyl 7 0 0 false v E0 E0 false).toArray 26)), fun _ => Iff.rfl⟩
      refine W.regR (R := fun a b => F a → F b) (fun _ h => h) (fun _ _ _ h k x => k (h x)) [(0, .q), (1, .q), (2, .q), (3, .q), (4, .q), (7, .q), (5, .l), (6, .l), (8, .l), (9, .l), (10, .l), (11, .q), (12, .z)] (by kernel_rfl) (by kernel_rfl) rfl ?_
      intro w12 x12 _
      have hF : F w12 := (hFd _).2 ⟨ib.ext' x12, hit.ext' x12⟩
      (repeat (first
          | refine WR.nilk ?_
          | refine WR.nil ?_
          | refine WR.yld (fun _ h => h) rfl rfl rfl rfl (fun w' hx => by obtain ⟨i1, i2⟩ := (hFd _).1 (hx hF); first | exact zyl | (exact by first | exact yld_load_cells rfl (Cells.has i1) | exact yld_conv_int rfl) | exact yld_indexAddr_arr rfl rfl (by omega)) ?_
          | refine WR.skip rfl rfl rfl rfl ?_))
      refine WR.stp rfl rfl rfl rfl (stp_buildSlice rfl rfl rfl rfl rfl) ?_
      rintro _ w13 ⟨r13, rfl, n13⟩
      replace hF : F w13 := by obtain ⟨i1, i2⟩ := (hFd _).1 hF; exact (hFd _).2 ⟨i1.ext' n13.ext, i2.ext' n13.ext⟩
      refine ⟨fun _ => hF, ?_⟩
      refine WR.stp rfl rfl rfl rfl (stp_bytes1 (c := UInt8.ofNat (65 + k)) rfl (by rw [u8_nat (by omega), show ((65 + k : Nat) : Int) = IntKind.u8.wrap (65 + (k : Int)) by simp [IntKind.wrap, IntKind.signed, IntKind.bits]; omega]; exact cell_of n13.has rfl)) ?_
      rintro _ _ ⟨rfl, rfl⟩
      refine ⟨fun h => h, ?_⟩
      (repeat (first
          | refine WR.nilk ?_
          | refine WR.nil ?_
          | refine WR.yld (fun _ h => h) rfl rfl rfl rfl (fun w' hx => by obtain ⟨i1, i2⟩ := (hFd _).1 (hx hF); first | exact zyl | (exact by first | exact yld_load_cells rfl (Cells.has i1) | exact yld_conv_int rfl) | exact yld_indexAddr_arr rfl rfl (by omega)) ?_
          | refine WR.skip rfl rfl rfl rfl ?_))
      refine WR.stp rfl rfl rfl rfl (stp_call rfl (c_field (nmI k) E0 t1.kind t1.n t1.count t1.vr a1 t1.elems.length c1 t1.name t1.tag t1.emb w13)) ?_
      rintro _ w14 ⟨rfl, x14⟩
      replace hF : F w14 := by obtain ⟨i1, i2⟩ := (hFd _).1 hF; exact (hFd _).2 ⟨i1.ext' x14, i2.ext' x14⟩
      refine ⟨fun _ => hF, ?_⟩
      (repeat (first
          | refine WR.nilk ?_
          | refine WR.nil ?_
          | refine WR.yld (fun _ h => h) rfl rfl rfl rfl (fun w' hx => by obtain ⟨i1, i2⟩ := (hFd _).1 (hx hF); first | exact zyl | (exact by first | exact yld_load_cells rfl (Cells.has i1) | exact yld_conv_int rfl) | exact yld_indexAddr_arr rfl rfl (by omega)) ?_
          | refine WR.skip rfl rfl rfl rfl ?_))
      refine WR.stp rfl rfl rfl rfl (stp_buildSlice rfl rfl rfl rfl rfl) ?_
      rintro _ w15 ⟨r15, rfl, n15⟩
      replace hF : F w15 := by obtain ⟨i1, i2⟩ := (hFd _).1 hF; exact (hFd _).2 ⟨i1.ext' n15.ext, i2.ext' n15.ext⟩
      refine ⟨fun _ => hF, ?_⟩
      (repeat (first
          | refine WR.nilk ?_
          | refine WR.nil ?_
          | refine WR.yld (fun _ h => h) rfl rfl rfl rfl (fun w' hx => by obtain ⟨i1, i2⟩ := (hFd _).1 (hx hF); first | exact zyl | (exact by first | exact yld_load_cells rfl (Cells.has i1) | exact yld_conv_int rfl) | exact yld_indexAddr_arr rfl rfl (by omega)) ?_
          | refine WR.skip rfl rfl rfl rfl ?_))
      have yy := (((x12).trans (n13.ext)).trans (x14)).trans (n15.ext)
      have ho5 := ho.ext yy
      have zy := yy.size
      refine WR.stp rfl rfl rfl rfl (stp_append1 (el := 26) rfl rfl ho5 (Cells.has n15.has) rfl rfl (by omega) (by simp [Value.oneCell']) (by rw [rowsF_len]; omega) (by omega)) ?_
      rintro v' w16 ⟨o6, a6, g6⟩
      have hF6 : F w16 := by
        obtain ⟨i1, i2⟩ := (hFd _).1 hF
        have k1 := ib1.lt
        have k2 := (it.lt)
        exact (hFd _).2 ⟨a6.keep i1 fun g hg => by have := ho5.lt g hg; omega, a6.keep i2 fun g hg => by have := ho5.lt g hg; omega⟩
      refine ⟨fun _ => hF6, ?_⟩
      replace hF := hF6
      (repeat (first
          | refine WR.nilk ?_
          | refine WR.nil ?_
          | refine WR.yld (fun _ h => h) rfl rfl rfl rfl (fun w' hx => by obtain ⟨i1, i2⟩ := (hFd _).1 (hx hF); first | exact zyl | (exact by first | exact yld_load_cells rfl (Cells.has i1) | exact yld_conv_int rfl) | exact yld_indexAddr_arr rfl rfl (by omega)) ?_
          | refine WR.skip rfl rfl rfl rfl ?_))
      have ⟨_, it6⟩ := (hFd _).1 hF
      have z6 := a6.size
      refine WR.last0 rfl rfl rfl (stp_store_cell rfl rfl rfl o6.one) ?_
      rintro _ w17 u7
      refine WR.nil ?_
      refine zst ?_
      have o7 := o6.upd u7 fun g hg => by have := o6.lt g hg; omega
      have x7 : Ext w8 w17 := u7.ext (a6.ext ho5 (x11.trans yy) (by omega)) (by omega)
      exact ⟨(k + 1, v'), by show n - (k + 1) < n - k; omega, ⟨rfl, by omega, x7, by have := u7.size; omega, u7.has, by rw [rowsF_succ]; exact o7⟩, sub_of ⟨rfl, rfl, rfl, rfl, rfl, rfl, rfl, trivial⟩⟩
    · rw [show decide ((k : Int) < (n : Int)) = false by simpa using hlt]
      obtain rfl : k = n := by omega
      replace lw := lw.ext x11
      replace hbz := hbz.ext x11
      replace T1 := T1.ext x11
      replace ib1 := ib1.ext' x11
      replace is := is.ext' x11
      replace x0 := x0.trans x11
      obtain ⟨fa, fc, rfl, htys⟩ := rowsF_tys T1.tys ho (by omega)
      have S : TvV w11 (.agg (tyc (stT (List.replicate k t1)) fa fc).toArray) (stT (List.replicate k t1)) := ⟨⟨_, _, rfl, htys⟩⟩
      rw [show tyl 7 0 0 false (.slice fa k fc) E0 E0 false = tyc (stT (List.replicate k t1)) fa fc by rw [show tyc (stT (List.replicate k t1)) fa fc = tyl 7 0 0 false (.slice fa (flds 0 (List.replicate k t1)).length fc) E0 E0 false from rfl, flds_len, List.length_replicate]] at hit
      have ihit := hit
      obtain ⟨al2, z2⟩ := sz_reps hz k
      have hst : ValidT D (stT (List.replicate k t1)) := valid_stT (fun t ht => by rw [List.eq_of_mem_replicate ht]; exact hT) (by simp; omega)
      have rst : Rng (stT (List.replicate k t1)) := rng_stT fun t ht => by rw [List.eq_of_mem_replicate ht]; exact hR1
      have wst : wt (stT (List.replicate k t1)) ≤ 33554432 := by have h1 := wt_stT (List.replicate k t1); rw [wts_reps, List.length_replicate] at h1; have h2 : k * wt t1 ≤ 26 * 1048576 := Nat.mul_le_mul hn27 hw1; omega
      refine zst ?_
      refine W.regD [(0, .q), (1, .q), (2, .q), (3, .q), (4, .q), (5, .q), (7, .q), (8, .q), (9, .q), (10, .q), (11, .q), (12, .q), (13, .q), (6, .l), (14, .l), (15, .l), (16, .l), (17, .q), (18, .q), (19, .q), (20, .q), (21, .q), (24, .q), (25, .q), (22, .l), (23, .l), (26, .q), (27, .q), (28, .q)] (by kernel_rfl) (by kernel_rfl) rfl ?_
      intro w12 x12 _
      replace lw := lw.ext x12
      replace hbz := hbz.ext x12
      replace T1 := T1.ext x12
      replace ib1 := ib1.ext' x12
      replace is := is.ext' x12
      replace S := S.ext x12
      replace ihit := ihit.ext' x12
      replace x0 := x0.trans x12
      refine zsd ?_
      refine WD.stp rfl rfl rfl rfl (stp_call rfl (t_SzReps lw hbz hW hV hwd hRD S hT hw1 hR1 hn27 hz)) ?_
      rintro _ w13 ⟨⟨z, rfl, hzs, _⟩, x13⟩
      refine ⟨by first | assumption | exact Ext.rfl' _ | infer_instance, ?_⟩
      replace lw := lw.ext x13
      replace hbz := hbz.ext x13
      replace T1 := T1.ext x13
      replace ib1 := ib1.ext' x13
      replace is := is.ext' x13
      replace S := S.ext x13
      replace ihit := ihit.ext' x13
      replace x0 := x0.trans x13
      refine zsd ?_
      refine WD.stp rfl rfl rfl rfl (stp_call rfl (t_array (k : Int) T1)) ?_
      rintro _ w14 ⟨A, x14⟩
      refine ⟨by first | assumption | exact Ext.rfl' _ | infer_instance, ?_⟩
      replace lw := lw.ext x14
      replace hbz := hbz.ext x14
      replace T1 := T1.ext x14
      replace ib1 := ib1.ext' x14
      replace is := is.ext' x14
      replace S := S.ext x14
      replace ihit := ihit.ext' x14
      replace x0 := x0.trans x14
      obtain ⟨aa, ac, rfl, _⟩ := A.ex
      refine zsd ?_
      refine WD.stp rfl rfl rfl rfl (stp_call rfl (t_Sz lw hbz hW hV hwd hRD A (valid_nd1 (.inr (.inr (.inl ⟨rfl, by omega⟩))) hT) (by have := wt_arrT k t1; omega) (rng_arrT (by omega) hR1) (sz_arrT hz))) ?_
      rintro _ w15 ⟨⟨z9, rfl, hza, _⟩, x15⟩
      refine ⟨by first | assumption | exact Ext.rfl' _ | infer_instance, ?_⟩
      replace lw := lw.ext x15
      replace hbz := hbz.ext x15
      replace T1 := T1.ext x15
      replace ib1 := ib1.ext' x15
      replace is := is.ext' x15
      replace S := S.ext x15
      replace ihit := ihit.ext' x15
      replace x0 := x0.trans x15
      refine zsd ?_
      refine WD.stp rfl rfl rfl rfl (stp_call rfl (c_sizedAlike z z9 w15)) ?_
      rintro _ _ ⟨rfl, rfl⟩
      refine ⟨by first | assumption | exact Ext.rfl' _ | infer_instance, ?_⟩
      rw [alike_true (alike_three hzs (arr_str hal ⟨hs1.1, by omega⟩ k) hza)]
      refine zsd ?_
      refine WD.stp rfl rfl rfl rfl (stp_call rfl (c_basic 1 w15)) ?_
      rintro _ w16 ⟨rfl, x16⟩
      refine ⟨by first | assumption | exact Ext.rfl' _ | infer_instance, ?_⟩
      replace lw := lw.ext x16
      replace hbz := hbz.ext x16
      replace T1 := T1.ext x16
      replace ib1 := ib1.ext' x16
      replace is := is.ext' x16
      replace x0 := x0.trans x16
      refine zsd ?_
      refine WD.stp rfl rfl rfl rfl (stp_call rfl (t_intSize lw.hp hbz hW)) ?_
      rintro _ w17 ⟨rfl, x17⟩
      refine ⟨by first | assumption | exact Ext.rfl' _ | infer_instance, ?_⟩
      replace lw := lw.ext x17
      replace hbz := hbz.ext x17
      replace T1 := T1.ext x17
      replace ib1 := ib1.ext' x17
      replace is := is.ext' x17
      replace x0 := x0.trans x17
      refine zsd ?_
      rw [show (wd == wd) = true by simp]
      refine zsd ?_
      refine zst ?_
      exact fin1 (.inl rfl) rfl rfl ⟨rfl, x0⟩
end Go.Proofs.YtpiegpegjbmlkaaGreatDoor.Law

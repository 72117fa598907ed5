/- The walks and the plain laws, part 1. -/
import Derived.Test.YtpiegpegjbmlkaaGreatDoorZ5
import Derived.Test.YtpiegpegjbmlkaaGreatDoorZ6
namespace Go.Proofs.YtpiegpegjbmlkaaGreatDoor
open Go Go.Kd
set_option maxRecDepth 100000
instance : Fun Tryz.prog 33 := fun_of (by kernel_rfl)
instance : Fun Tryz.prog 54 := fun_of (by kernel_rfl)
end Go.Proofs.YtpiegpegjbmlkaaGreatDoor
namespace Go.Kd
theorem Own.shape0 {w : World} {base el sz : Nat} {v : Value} {ls : List (List Value)} (h : Own w base el sz v ls) : ∃ a cp, v = .slice a ls.length cp ∧ ls.length ≤ cp ∧ ∀ i l (j : Nat) u, ls[i]? = some l → l[j]? = some u → ∃ g, a = some ⟨g, 0, none⟩ ∧ w.cell? ⟨g, i * sz + j, none⟩ = some u := by
  rcases h.row.2 with ⟨h1, h2⟩ | ⟨g, cap, cur, h1, h2, h3, h4, h5, h6, h7⟩
  · exact ⟨none, 0, by rw [h1, h2], by omega, fun i l j u hi => by have := (List.getElem?_eq_some_iff.1 hi).1; omega⟩
  · refine ⟨_, cap, h1, h4, fun i l j u hi hu => ⟨g, rfl, ?_⟩⟩
    have hlt := (List.getElem?_eq_some_iff.1 hi).1
    have hl := h.each _ (List.mem_of_getElem? hi)
    have hj : j < sz := by rw [← hl]; exact (List.getElem?_eq_some_iff.1 hu).1
    have h8 := flat_at ls h.each i _ j u hi hu
    rw [← h7, List.getElem?_take_of_lt (by calc i * sz + j < i * sz + sz := by omega
      _ = (i + 1) * sz := by rw [Nat.succ_mul]
      _ ≤ ls.length * sz := Nat.mul_le_mul_right _ (by omega))] at h8
    exact cell_of ⟨h3⟩ (by simpa using h8)
end Go.Kd
namespace Go.Proofs.YtpiegpegjbmlkaaGreatDoor
open Go Go.Kd
set_option maxRecDepth 100000

theorem c_StrField (b : Nat) (ga : Nat) (n fc : Nat) (x : Value) (i : Nat) (f : Nat) (w : World) (h : Has w b (.cells #[.slice (some ⟨ga, 0, none⟩) n fc, x] 98)) (hi : i < n) (hc : w.cell? ⟨ga, 0 + i * 1, none⟩ = some (pt f)) : Calls Tryz.prog 54 #[pt b, .int .i64 i] w (Ret fun r w' => r = pt f ∧ w = w') := by
  refine W.enter (args := [pt b, .int .i64 i]) Tryz.func54 rfl Tryz.ntmps54 rfl rfl ?_
  refine zst ?_
  refine WU.yld rfl rfl rfl (yld_load_c rfl hc) ?_
  refine zst ?_
  exact fin1 (.inl rfl) rfl rfl ⟨rfl, rfl⟩
abbrev ptL (vb : Nat → Nat) (k : Nat) : List (List Value) := (List.range k).map fun i => [pt (vb i)]
theorem ptL_succ (vb : Nat → Nat) (k : Nat) : ptL vb (k + 1) = ptL vb k ++ [[pt (vb k)]] := by simp [ptL, List.range_succ]
theorem ptL_len (vb : Nat → Nat) (k : Nat) : (ptL vb k).length = k := by simp [ptL]
theorem ptL_at (vb : Nat → Nat) {k i : Nat} (h : i < k) : (ptL vb k)[i]? = some [pt (vb i)] := by simp [ptL, List.getElem?_range h]
set_option maxHeartbeats 4000000 in
theorem c_iOffsetsof {D : List De} {t : Ty} {l : List (Int × Int)} {a : Option Addr} {cp : Nat} {a1 : Option Addr} {c1 : Nat} {w : World} {wd mx : Int} (hp : Prp w) (hbz : Bsz w) (hW : OkW wd mx) (hV : ValidD D) (hT : ValidT D t) (hwd : wtD D ≤ 16777216) (hwt : wt t ≤ 16777216) (hRD : RngD D) (hR : Rng t) (hk : t.kind = 7) (hl : l.length = t.elems.length)
    (hz : ∀ (i : Nat) e q, t.elems[i]? = some e → l[i]? = some q → Sz D wd mx e q.1 q.2) (hd : DsV w (fun b => b < w.heap.size) (.slice a D.length cp) D) (ht : TysV w (fun b => b < w.heap.size) a1 c1 t.elems) :
    Calls Tryz.prog 33 #[.slice a D.length cp, .int .i64 wd, .int .i64 mx, .agg (tyc t a1 c1).toArray] w (Ret fun r w' => (∃ b zs, r = .slice (some ⟨b, 0, none⟩) t.elems.length t.elems.length ∧ zs.length = t.elems.length ∧ Has w' b (.cells (zs.map fun z => Value.int .i64 z).toArray 2) ∧ zal zs (offsI 0 l) t.elems.length) ∧ Ext w w') := by
  refine W.enter (args := [.slice a D.length cp, .int .i64 wd, .int .i64 mx, .agg (tyc t a1 c1).toArray]) Tryz.func33 rfl Tryz.ntmps33 rfl rfl ?_
  refine zst ?_
  refine WU.stp rfl rfl rfl (by first | exact stp_box rfl rfl | exact stp_box1 rfl rfl) ?_
  rintro _ w1 ⟨b1, rfl, n1⟩
  refine zst ?_
  have ib1 : Has w1 b1 (.cells (tyc t a1 c1).toArray 26) := n1.has
  have rR : ∀ w : World, Kp b1 t a1 c1 w w := fun w h => h
  have rT : ∀ u v x : World, Kp b1 t a1 c1 u v → Kp b1 t a1 c1 v x → Kp b1 t a1 c1 u x := fun _ _ _ h k x => k (h x)
  refine W.regX2 (Kp b1 t a1 c1) ?_
  intro w2 x2 _
  have ib2 := ib1.ext' x2
  have x02 : Ext w w2 := n1.ext.trans x2
  have z02 := x02.size
  have hb1 := ib1.lt
  clear n1
  refine WX.lin rR rT [(0, .q), (2, .q), (1, .l), (3, .l), (4, .l), (5, .q), (6, .q), (7, .q), (8, .q), (9, .q), (10, .q)] (by kernel_rfl) (by kernel_rfl) rfl ?_
  refine WR.yld rR rfl rfl rfl rfl (fun w' _ => zyl) ?_
  refine WR.yld rR rfl rfl rfl rfl (fun w' hk => by have i1 := hk ib2; exact yld_load_cells rfl (Cells.has i1)) ?_
  refine WR.stp rfl rfl rfl rfl (stp_call rfl (c_build' (hp.ext x02) hV hwd (hd.ext x02) fun b hb => by omega)) ?_
  rintro _ w4 ⟨K, s, bb, rfl, hKD, hKN, x4, hB⟩
  refine ⟨fun h => h.ext' x4, ?_⟩
  have x04 := x02.trans x4
  have z4 := x4.size
  subst hKD
  refine WR.stp rfl rfl rfl rfl (stp_call rfl (c_of hB (p := fun b => b < w.heap.size) (cs := tyc t a1 c1) (t := t) ((TyV.of_tys ht).ext x04) (fun b hb => ⟨by omega, by omega⟩) ⟨true, hT.sh⟩ hT.lg (by show _ ≤ 268435456; omega))) ?_
  rintro _ w5 ⟨s5, hg5, st5, hB5, rt5, T, rb, rfl⟩
  refine ⟨fun h => Has.sta st5 h, ?_⟩
  have x05 := ext_sta x04 (by omega) st5
  have hgd := hT.good hwt
  refine WR.stp rfl rfl rfl rfl (und_val hB5.ic hB5.bi.sll (Ext.rfl' w5) hgd rt5 rfl) ?_
  rintro _ _ ⟨rfl, y, Ty, b, rfl, hy, hyl, hyu⟩
  refine ⟨fun h => h, ?_⟩
  have hu : underT K.D t = t := by rw [under_lit (by omega) (by omega), norm_named (by omega)]
  rw [hu] at hyu
  cases lit_cases hy hyl with
  | basic nb hT' h0 h1 h2 hb => have := (norm_bas h0 h1 h2).1; rw [← hyu] at this; omega
  | iface _ h9 => rw [← hyu] at h9; omega
  | word _ h9 => rw [norm_named (by omega)] at hyu; rw [← hyu] at h9; omega
  | slice _ h9 => rw [norm_named (by omega)] at hyu; rw [← hyu] at h9; omega
  | array _ _ _ h9 => rw [norm_named (by omega)] at hyu; rw [← hyu] at h9; omega
  | struct fa fc tv vb vv hT' h9 hf hb =>
  subst hT'
  rw [norm_named (by omega)] at hyu
  subst hyu
  have hlen := wt_len t
  refine WR.yld rR rfl rfl rfl rfl (fun w' _ => zyl) ?_
  refine WR.yld rR rfl rfl rfl rfl (fun w' _ => zyl) ?_
  refine WR.yld rR rfl rfl rfl rfl (fun w' _ => zyl) ?_
  refine WR.yld rR rfl rfl rfl rfl (fun w' _ => zyl) ?_
  refine WR.yld rR rfl rfl rfl rfl (fun w' _ => zyl) ?_
  refine WR.yld rR rfl rfl rfl rfl (fun w' _ => zyl) ?_
  refine WR.nilk ?_
  refine zst ?_
  refine WU.stp rfl rfl rfl (stp_call rfl (c_NumFlds b fa t.elems.length fc tv w5 hb)) ?_
  rintro _ _ ⟨rfl, rfl⟩
  refine zst ?_
  refine W.loop (σ := Nat × Value) (fun (k, v) => [(26, .int .i64 k), (25, .int .i64 t.elems.length), (9, pt b), (11, v), (1, .int .i64 wd), (2, .int .i64 mx)])
    (fun (k, v) D' wk => D' = [] ∧ k ≤ t.elems.length ∧ Ext w5 wk ∧ Own wk w5.heap.size 80 1 v (ptL vb k)) (fun (k, _) => t.elems.length - k) (0, .slice none 0 0) ⟨rfl, Nat.zero_le _, Ext.rfl' _, Own.nil ..⟩ (by exact sub_of ⟨rfl, rfl, rfl, rfl, rfl, rfl, trivial⟩) ?_
  rintro ⟨k, v⟩ D' wr ⟨rfl, hk', xr, ho⟩
  have hsz := xr.size
  refine zst ?_
  by_cases hlt : k < t.elems.length
  · rw [show decide ((k : Int) < (t.elems.length : Int)) = true by simpa using hlt]
    obtain ⟨fb, rfl, hfc⟩ := hf.cell k hlt
    refine zst ?_
    refine WU.stp rfl rfl rfl (stp_call rfl (c_StrField b fb t.elems.length fc tv k (vb k) wr (hb.ext' xr) hlt (xr.cell hfc))) ?_
    rintro _ _ ⟨rfl, rfl⟩
    refine WU.stp rfl rfl rfl (stp_buildSlice rfl rfl rfl rfl rfl) ?_
    rintro _ w7 ⟨b7, rfl, n7⟩
    refine WU.stp rfl rfl rfl (stp_append_cell rfl rfl (ho.ext n7.ext) (cell_of n7.has rfl) rfl (by rw [ptL_len]; omega) (by have := n7.ext.size; omega)) ?_
    rintro v8 w8 ⟨h1, h2, h3⟩
    have y8 := h2.ext (ho.ext n7.ext) (xr.trans n7.ext) (Nat.le_refl _)
    refine zst ?_
    exact ⟨(k + 1, v8), by show t.elems.length - (k + 1) < t.elems.length - k; omega, ⟨rfl, by omega, y8, by rw [ptL_succ]; exact h1⟩, sub_of ⟨rfl, rfl, rfl, rfl, rfl, rfl, trivial⟩⟩
  · rw [show decide ((k : Int) < (t.elems.length : Int)) = false by simpa using hlt]
    obtain rfl : k = t.elems.length := by omega
    refine zst ?_
    refine WU.stp rfl rfl rfl (by first | exact stp_box rfl rfl | exact stp_box1 rfl rfl) ?_
    rintro _ w8 ⟨b8, rfl, n8⟩
    have x8 := xr.trans n8.ext
    obtain ⟨va, vc, rfl, hvc, hvo⟩ := (ho.ext n8.ext).shape0
    rw [ptL_len] at hvc ⊢
    have hFV : FldsV K s5 w8 w8 va t.elems vb vv := ⟨fun i hi => by
      obtain ⟨g, h1, h2⟩ := hvo i _ 0 _ (ptL_at vb hi) rfl
      exact ⟨g, h1, by rw [Nat.zero_add]; exact h2⟩, fun i e he => by
      obtain ⟨h1, pk, kd, em, h2⟩ := hf.fld i e he
      exact ⟨h1.ext x8, pk, kd, em, h2.ext' x8⟩⟩
    have hpb : Has w8 b8 (.cells (szl wd mx).toArray 65) := n8.has
    have hS : StC K s5 w8 b8 wd mx := ⟨hB5.ic.ext x8, fun d hd => by have := hB5.bi.sll d hd; have := x8.size; omega, hbz.ext (x05.trans x8), hpb, hW⟩
    have hok := hB5.ic.ok
    refine zst ?_
    refine WU.stp rfl rfl rfl (stp_call rfl (c_gOffsetsof hS (Ext.rfl' w8) hFV (by omega) hl (fun i q hq => by have hlt' := (List.getElem?_eq_some_iff.1 hq).1; exact (hz i _ q (List.getElem?_eq_getElem (by omega)) hq).ok hW) fun i e q he hq => c_gSzAl hS hRD (hz i e q he hq) (hgd.el he) (hR.el i e he))) ?_
    rintro r w9 ⟨hr, x9⟩
    refine zst ?_
    exact fin1 (.inl rfl) rfl rfl ⟨hr, x05.trans (x8.trans x9)⟩
end Go.Proofs.YtpiegpegjbmlkaaGreatDoor
namespace Go.Proofs.YtpiegpegjbmlkaaGreatDoor.Law
open Go Go.Kd
set_option maxRecDepth 100000

theorem sz_elems {D : List De} {wd mx : Int} {t : Ty} {s a : Int} (hk : t.kind = 7) (h : Sz D wd mx t s a) : ∃ l : List (Int × Int), l.length = t.elems.length ∧ (∀ (i : Nat) e q, t.elems[i]? = some e → l[i]? = some q → Sz D wd mx e q.1 q.2) ∧ s = strSz 0 l ∧ a = maxA 1 l := by
  have hu : underT D t = t := by rw [under_lit (by omega) (by omega), norm_named (by omega)]
  cases h with
  | basic _ h => rw [hu] at h; omega
  | slice _ h => rw [hu] at h; omega
  | iface _ h => rw [hu] at h; omega
  | word _ h => rw [hu] at h; omega
  | arr _ _ _ _ h => rw [hu] at h; omega
  | str _ l h1 h2 h3 => rw [hu] at h2 h3; exact ⟨l, h2, h3, rfl, rfl⟩
theorem sumI_inv {x y : Int} (h : 0 ≤ sumI x y) : 0 ≤ x ∧ 0 ≤ y ∧ sumI x y = x + y ∧ x + y ≤ 9223372036854775807 := by
  unfold sumI at *
  split at h
  · omega
  · rename_i h0
    unfold mxI at h0
    rw [if_neg (by unfold mxI; omega)]
    omega
theorem upI_inv {x a : Int} (ha : okA a) (h : 0 ≤ upI x a) : 0 ≤ x ∧ x ≤ upI x a ∧ upI x a % a = 0 := by
  unfold upI at *
  split at h
  · omega
  · rename_i h0
    rw [if_neg h0]
    have h1 := sumI_inv h
    rw [h1.2.2.1]
    unfold okA at ha
    rcases ha with rfl | rfl | rfl | rfl <;> omega
theorem strSz_neg : ∀ (l : List (Int × Int)) {m : Int}, m < 0 → strSz m l < 0
  | [], _, h => h
  | (_, _) :: r, _, h => strSz_neg r (by rw [upI_neg h, sumI_neg (.inl (by decide))]; decide)
theorem strSz_app : ∀ (l r : List (Int × Int)) (m : Int), strSz m (l ++ r) = strSz (strSz m l) r
  | [], _, _ => rfl
  | (_, _) :: l, r, _ => strSz_app l r _
theorem strSz_take {l : List (Int × Int)} (h : 0 ≤ strSz 0 l) (k : Nat) : 0 ≤ strSz 0 (l.take k) := by
  rw [← List.take_append_drop k l, strSz_app] at h
  by_cases hn : strSz 0 (l.take k) < 0
  · have := strSz_neg (l.drop k) hn
    omega
  · omega
/-- field k: behind what is ahead of it, at a multiple of its alignment -/
theorem off_at {l : List (Int × Int)} (h : 0 ≤ strSz 0 l) {k : Nat} {q : Int × Int} (hq : l[k]? = some q) (ha : okA q.2) : ∃ o, (offsI 0 l)[k]? = some o ∧ 0 ≤ o ∧ strSz 0 (l.take k) ≤ o ∧ o % q.2 = 0 ∧ 0 ≤ q.1 ∧ strSz 0 (l.take (k + 1)) = o + q.1 ∧ o + q.1 ≤ 9223372036854775807 := by
  refine ⟨_, offsI_at l k hq, ?_⟩
  have h1 := strSz_take h (k + 1)
  rw [show l.take (k + 1) = l.take k ++ [q] by rw [List.take_add_one, hq]; rfl, strSz_last] at h1 ⊢
  obtain ⟨k1, k2, k3, k4⟩ := sumI_inv h1
  obtain ⟨k5, k6, k7⟩ := upI_inv ha k1
  exact ⟨k1, k6, k7, k2, k3, k4⟩
theorem alk_eq {z s : Int} (h : alk z s) (h0 : 0 ≤ s) : z = s := by obtain ⟨h, _⟩ := h; unfold alikeS at h; omega
end Go.Proofs.YtpiegpegjbmlkaaGreatDoor.Law
namespace Go.Proofs.YtpiegpegjbmlkaaGreatDoor.Law
open Go Go.Kd
set_option maxRecDepth 100000

set_option maxHeartbeats 4000000 in
theorem c_FnOffsetsof {D : List De} {a : Option Addr} {cp : Nat} {t1 : Ty} {a1 : Option Addr} {c1 : Nat} {q2 : Bool} {i3 : Int} {w : World} (hp : Prp w) (hbz : Bsz w) (_ : (-9223372036854775808 : Int) ≤ i3 ∧ i3 ≤ 9223372036854775807) (hwd : wtD D ≤ 1048576) (hw1 : wt t1 ≤ 1048576) (hd : DsV w (fun b => b < w.heap.size) (.slice a D.length cp) D) (ht1 : TysV w (fun b => b < w.heap.size) a1 c1 t1.elems) (hRD : RngD D) (hR1 : Rng t1) :
    Calls Tryz.prog 11 #[.slice a D.length cp, .agg (tyc t1 a1 c1).toArray, .bool q2, .int .i64 i3] w (Ret fun r w' => r = .bool true ∧ Ext w w') := by
  have hDl : D.length ≤ 16777216 := by have := len_wtD D; omega
  have lw : LW D a cp w := ⟨hp, hd⟩
  have T1 : TvV w (.agg (tyc t1 a1 c1).toArray) t1 := ⟨⟨_, _, rfl, ht1⟩⟩
  have x0 : Ext w w := Ext.rfl' w
  refine W.enter (args := [.slice a D.length cp, .agg (tyc t1 a1 c1).toArray, .bool q2, .int .i64 i3]) Tryz.func11 rfl Tryz.ntmps11 rfl rfl ?_
  refine zst ?_
  refine WU.stp rfl rfl rfl (by first | exact stp_box rfl rfl | exact stp_box1 rfl rfl) ?_
  rintro _ w1 ⟨b1, rfl, n1⟩
  replace lw := lw.ext n1.ext
  replace hbz := hbz.ext n1.ext
  replace T1 := T1.ext n1.ext
  replace x0 := x0.trans n1.ext
  have ib1 : Has w1 b1 (.cells (tyc t1 a1 c1).toArray 26) := n1.has
  refine zst ?_
  rw [show decide ((2147483647 : Int) < (D.length : Int)) = false by simp; omega]
  refine zst ?_
  refine WU.stp rfl rfl rfl (stp_call rfl (c_zzFits1 t1 a1 c1 _ (by omega))) ?_
  rintro _ w2 ⟨rfl, x2⟩
  replace lw := lw.ext x2
  replace hbz := hbz.ext x2
  replace T1 := T1.ext x2
  replace ib1 := ib1.ext' x2
  replace x0 := x0.trans x2
  refine zst ?_
  refine WU.stp rfl rfl rfl (stp_call rfl (c_sizes q2 i3 w2)) ?_
  rintro _ w3 ⟨wd, mx, hW, rfl, x3⟩
  replace lw := lw.ext x3
  replace hbz := hbz.ext x3
  replace T1 := T1.ext x3
  replace ib1 := ib1.ext' x3
  replace x0 := x0.trans x3
  have hwd4 := hW.wd
  refine zst ?_
  refine WU.stp rfl rfl rfl stp_alloc ?_
  rintro _ w4 ⟨b4, rfl, n4⟩
  refine WU.stp0 rfl rfl (stp_store_whole rfl rfl rfl rfl) ?_
  rintro _ w5 u5
  have is : szb w5 b4 wd mx := u5.has
  have y5 : Ext w3 w5 := (u5.ofNew n4).ext
  clear u5 n4
  replace lw := lw.ext y5
  replace hbz := hbz.ext y5
  replace T1 := T1.ext y5
  replace ib1 := ib1.ext' y5
  replace x0 := x0.trans y5
  refine zst ?_
  refine WU.stp rfl rfl rfl (stp_buildSlice rfl rfl rfl rfl rfl) ?_
  rintro _ w6 ⟨r6, rfl, n6⟩
  replace lw := lw.ext n6.ext
  replace hbz := hbz.ext n6.ext
  replace T1 := T1.ext n6.ext
  replace ib1 := ib1.ext' n6.ext
  replace is := is.ext' n6.ext
  replace x0 := x0.trans n6.ext
  have hr : Has w6 r6 (.cells (tyc t1 a1 c1).toArray 26) := n6.has
  refine zst ?_
  refine WU.stp rfl rfl rfl (stp_call rfl (t_Valid1 lw hwd hr rfl T1 (by omega))) ?_
  rintro _ w7 ⟨v, rfl, hv, x7⟩
  replace lw := lw.ext x7
  replace hbz := hbz.ext x7
  replace T1 := T1.ext x7
  replace ib1 := ib1.ext' x7
  replace is := is.ext' x7
  replace x0 := x0.trans x7
  cases v with
  | false =>
    refine zst ?_
    refine zst ?_
    exact fin1 (.inl rfl) rfl rfl ⟨rfl, x0⟩
  | true =>
    obtain ⟨hV, hT⟩ := hv rfl
    have hok := okD hV hwd
    by_cases hk7 : t1.kind ≠ 7
    · have hne : (t1.kind != 7) = true := by simpa using hk7
      refine zst ?_
      rw [hne]
      refine zst ?_
      refine zst ?_
      exact fin1 (.inl rfl) rfl rfl ⟨rfl, x0⟩
    replace hk7 : t1.kind = 7 := by omega
    have hne : (t1.kind != 7) = false := by simpa using hk7
    have hG1 := hT.good (Nat.le_trans hw1 (by decide))
    obtain ⟨_, hc1⟩ := good_cmp hok hG1
    obtain ⟨s, al, hz⟩ := exists_sz hok wd mx hc1 hG1
    obtain ⟨l, hl, hq, rfl, rfl⟩ := sz_elems hk7 hz
    refine zst ?_
    rw [hne]
    refine zst ?_
    refine WU.stp rfl rfl rfl (stp_call rfl (c_Plain hok a cp hz hG1 a1 c1 w7 _ (fun b hb => hb) lw.hd T1.tys)) ?_
    rintro _ w8 ⟨⟨q, rfl⟩, x8⟩
    replace lw := lw.ext x8
    replace hbz := hbz.ext x8
    replace T1 := T1.ext x8
    replace ib1 := ib1.ext' x8
    replace is := is.ext' x8
    replace x0 := x0.trans x8
    cases q with
    | false =>
      refine zst ?_
      refine zst ?_
      exact fin1 (.inl rfl) rfl rfl ⟨rfl, x0⟩
    | true =>
      refine zst ?_
      refine W.regD [(0, .q), (1, .q), (2, .q), (3, .q), (4, .q), (5, .q), (7, .q), (8, .q), (9, .q), (6, .l), (10, .l), (11, .q), (12, .q)] (by kernel_rfl) (by kernel_rfl) rfl ?_
      intro w9 x9 _
      replace lw := lw.ext x9
      replace hbz := hbz.ext x9
      replace T1 := T1.ext x9
      replace ib1 := ib1.ext' x9
      replace is := is.ext' x9
      replace x0 := x0.trans x9
      refine zsd ?_
      refine WD.stp rfl rfl rfl rfl (stp_call rfl (c_iOffsetsof lw.hp hbz hW hV hT (by omega) (by omega) hRD hR1 hk7 hl hq lw.hd T1.tys)) ?_
      rintro _ w10 ⟨⟨gb, nz, rfl, hzl, hgb, hza⟩, x10⟩
      refine ⟨by first | assumption | exact Ext.rfl' _ | infer_instance, ?_⟩
      replace lw := lw.ext x10
      replace hbz := hbz.ext x10
      replace T1 := T1.ext x10
      replace ib1 := ib1.ext' x10
      replace is := is.ext' x10
      replace x0 := x0.trans x10
      have igb := hgb
      refine zsd ?_
      have hlen1 := wt_len t1
      refine WD.stp rfl rfl rfl rfl (stp_call rfl (c_Offsets (D := D) (a := a) (cp := cp) (wd := wd) (mx := mx) (t := t1) (by omega) hl (fun i q hq1 => by have hlt := (List.getElem?_eq_some_iff.1 hq1).1; exact (hq i _ q (List.getElem?_eq_getElem (by omega)) hq1).ok hW) (fun i e q he hq1 => ⟨(c_SzAl hok a cp hW (hq i e q he hq1) (hG1.el he) hRD (hR1.el i e he)).2, (c_SzAl hok a cp hW (hq i e q he hq1) (hG1.el he) hRD (hR1.el i e he)).1⟩) a1 c1 w10 _ (fun b hb => hb) lw.hd T1.tys)) ?_
      rintro _ w11 ⟨⟨wa, wc, rfl, hwc, hnum⟩, x11⟩
      refine ⟨by first | assumption | exact Ext.rfl' _ | infer_instance, ?_⟩
      replace lw := lw.ext x11
      replace hbz := hbz.ext x11
      replace T1 := T1.ext x11
      replace ib1 := ib1.ext' x11
      replace is := is.ext' x11
      replace igb := igb.ext' x11
      replace x0 := x0.trans x11
      refine zsd ?_
      refine zst ?_
      rw [show ((t1.elems.length : Int) != ((offsI 0 l).length : Int)) = false by rw [offsI_len, hl]; simp]
      refine zst ?_
      rw [offsI_len, hl] at hwc ⊢
      refine W.loop (σ := Nat) (fun k => [(59, .int .i64 k), (58, .int .i64 t1.elems.length), (57, .slice wa t1.elems.length wc), (10, .slice (some ⟨gb, 0, none⟩) t1.elems.length t1.elems.length), (9, pt b4)])
        (fun k D' wk => D' = [] ∧ k ≤ t1.elems.length ∧ w11 = wk) (fun k => t1.elems.length - k) 0 ⟨rfl, Nat.zero_le _, rfl⟩ (by exact sub_of ⟨rfl, rfl, rfl, rfl, rfl, trivial⟩) ?_
      rintro k D' _ ⟨rfl, hk, rfl⟩
      refine zst ?_
      by_cases hlt : k < t1.elems.length
      · rw [show decide ((k : Int) < (t1.elems.length : Int)) = true by simpa using hlt]
        have h1 := List.getElem?_eq_getElem (show k < (offsI 0 l).length by rw [offsI_len]; omega)
        generalize (offsI 0 l)[k]'(by rw [offsI_len]; omega) = o at h1
        have h2 := List.getElem?_eq_getElem (show k < nz.length by omega)
        generalize nz[k]'(by omega) = z at h2
        obtain ⟨nb, no, rfl, hnc⟩ := hnum k o h1
        obtain ⟨hal, _⟩ := hza k z o hlt h2 h1
        have hgc : w11.cell? ⟨gb, 0 + k * 1, none⟩ = some (.int .i64 z) := by rw [show 0 + k * 1 = k by omega]; exact cell_of igb (by simp [h2])
        refine zst ?_
        refine WU.yld rfl rfl rfl (yld_load_c rfl hnc) ?_
        refine zst ?_
        refine WU.yld rfl rfl rfl (yld_load_c rfl hgc) ?_
        refine zst ?_
        refine WU.stp rfl rfl rfl (stp_call rfl (c_sizedAlike z o w11)) ?_
        rintro _ _ ⟨rfl, rfl⟩
        rw [alike_true hal]
        refine zst ?_
        exact ⟨k + 1, by show t1.elems.length - (k + 1) < t1.elems.length - k; omega, ⟨rfl, by omega, rfl⟩, sub_of ⟨rfl, rfl, rfl, rfl, rfl, trivial⟩⟩
      · rw [show decide ((k : Int) < (t1.elems.length : Int)) = false by simpa using hlt]
        refine zst ?_
        refine W.regD [(0, .q), (1, .q), (2, .q), (3, .q), (6, .q), (7, .q), (4, .l), (5, .l), (8, .q), (9, .q)] (by kernel_rfl) (by kernel_rfl) rfl ?_
        intro w12 x12 _
        replace lw := lw.ext x12
        replace hbz := hbz.ext x12
        replace T1 := T1.ext x12
        replace ib1 := ib1.ext' x12
        replace is := is.ext' x12
        replace x0 := x0.trans x12
        refine zsd ?_
        refine WD.stp rfl rfl rfl rfl (stp_call rfl (c_basic 1 w12)) ?_
        rintro _ w13 ⟨rfl, x13⟩
        refine ⟨by first | assumption | exact Ext.rfl' _ | infer_instance, ?_⟩
        replace lw := lw.ext x13
        replace hbz := hbz.ext x13
        replace T1 := T1.ext x13
        replace ib1 := ib1.ext' x13
        replace is := is.ext' x13
        replace x0 := x0.trans x13
        refine zsd ?_
        refine WD.stp rfl rfl rfl rfl (stp_call rfl (t_intSize lw.hp hbz hW)) ?_
        rintro _ w14 ⟨rfl, x14⟩
        refine ⟨by first | assumption | exact Ext.rfl' _ | infer_instance, ?_⟩
        replace lw := lw.ext x14
        replace hbz := hbz.ext x14
        replace T1 := T1.ext x14
        replace ib1 := ib1.ext' x14
        replace is := is.ext' x14
        replace x0 := x0.trans x14
        refine zsd ?_
        rw [show (wd == wd) = true by simp]
        refine zsd ?_
        refine zst ?_
        exact fin1 (.inl rfl) rfl rfl ⟨rfl, x0⟩
end Go.Proofs.YtpiegpegjbmlkaaGreatDoor.Law

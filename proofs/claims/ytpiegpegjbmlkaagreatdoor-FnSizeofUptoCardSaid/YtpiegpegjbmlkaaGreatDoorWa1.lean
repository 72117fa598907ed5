/- The walks and the plain laws, part 1. -/
import Derived.Test.YtpiegpegjbmlkaaGreatDoorZ6
namespace Go.Proofs.YtpiegpegjbmlkaaGreatDoor.Law
open Go Go.Kd
set_option maxRecDepth 100000

set_option maxHeartbeats 4000000 in
theorem c_FnSizeof {D : List De} {a : Option Addr} {cp : Nat} {t1 : Ty} {a1 : Option Addr} {c1 : Nat} {q2 : Bool} {i3 : Int} {w : World} (hp : Prp w) (hbz : Bsz w) (_ : (-9223372036854775808 : Int) ≤ i3 ∧ i3 ≤ 9223372036854775807) (hwd : wtD D ≤ 1048576) (hw1 : wt t1 ≤ 1048576) (hd : DsV w (fun b => b < w.heap.size) (.slice a D.length cp) D) (ht1 : TysV w (fun b => b < w.heap.size) a1 c1 t1.elems) (hRD : RngD D) (hR1 : Rng t1) :
    Calls Tryz.prog 7 #[.slice a D.length cp, .agg (tyc t1 a1 c1).toArray, .bool q2, .int .i64 i3] w (Ret fun r w' => r = .bool true ∧ Ext w w') := by
  have hDl : D.length ≤ 16777216 := by have := len_wtD D; omega
  have lw : LW D a cp w := ⟨hp, hd⟩
  have T1 : TvV w (.agg (tyc t1 a1 c1).toArray) t1 := ⟨⟨_, _, rfl, ht1⟩⟩
  have x0 : Ext w w := Ext.rfl' w
  refine W.enter (args := [.slice a D.length cp, .agg (tyc t1 a1 c1).toArray, .bool q2, .int .i64 i3]) Tryz.func7 rfl Tryz.ntmps7 rfl rfl ?_
  refine zst ?_
  refine WU.stp rfl rfl rfl (by first | exact stp_box rfl rfl | exact stp_box1 rfl rfl) ?_
  rintro _ w1 ⟨b1, rfl, n1⟩
  replace lw := lw.ext n1.ext
  replace hbz := hbz.ext n1.ext
  replace T1 := T1.ext n1.ext
  replace x0 := x0.trans n1.ext
  have ib1 : Has w1 b1 (.cells (tyc t1 a1 c1).toArray 26) := n1.has
  refine zst ?_
  rw [show decide ((2147483647 : Int) < (D.length : Int)) = false by simp; omega]
  refine zst ?_
  refine WU.stp rfl rfl rfl (stp_call rfl (c_zzFits1 t1 a1 c1 _ (by omega))) ?_
  rintro _ w2 ⟨rfl, x2⟩
  replace lw := lw.ext x2
  replace hbz := hbz.ext x2
  replace T1 := T1.ext x2
  replace ib1 := ib1.ext' x2
  replace x0 := x0.trans x2
  refine zst ?_
  refine WU.stp rfl rfl rfl (stp_call rfl (c_sizes q2 i3 w2)) ?_
  rintro _ w3 ⟨wd, mx, hW, rfl, x3⟩
  replace lw := lw.ext x3
  replace hbz := hbz.ext x3
  replace T1 := T1.ext x3
  replace ib1 := ib1.ext' x3
  replace x0 := x0.trans x3
  have hwd4 := hW.wd
  refine zst ?_
  refine WU.stp rfl rfl rfl stp_alloc ?_
  rintro _ w4 ⟨b4, rfl, n4⟩
  refine WU.stp0 rfl rfl (stp_store_whole rfl rfl rfl rfl) ?_
  rintro _ w5 u5
  have is : szb w5 b4 wd mx := u5.has
  have y5 : Ext w3 w5 := (u5.ofNew n4).ext
  clear u5 n4
  replace lw := lw.ext y5
  replace hbz := hbz.ext y5
  replace T1 := T1.ext y5
  replace ib1 := ib1.ext' y5
  replace x0 := x0.trans y5
  refine zst ?_
  refine W.regD [(0, .q), (1, .q), (2, .l), (3, .l), (4, .q), (5, .q), (6, .q), (7, .q), (8, .l), (9, .q), (10, .q), (11, .q), (12, .q), (13, .q), (14, .q), (15, .q), (16, .q), (17, .q), (19, .q), (20, .q), (21, .q), (18, .l), (22, .l), (23, .l), (24, .q), (25, .q), (26, .q), (27, .q), (28, .q), (31, .q), (32, .q), (29, .l), (30, .l), (33, .q), (34, .q), (35, .q), (36, .q)] (by kernel_rfl) (by kernel_rfl) rfl ?_
  intro w6 x6 _
  replace lw := lw.ext x6
  replace hbz := hbz.ext x6
  replace T1 := T1.ext x6
  replace ib1 := ib1.ext' x6
  replace is := is.ext' x6
  replace x0 := x0.trans x6
  refine zsd ?_
  refine WD.stp rfl rfl rfl rfl (stp_buildSlice rfl rfl rfl rfl rfl) ?_
  rintro _ w7 ⟨r7, rfl, n7⟩
  refine ⟨n7.ext, ?_⟩
  replace lw := lw.ext n7.ext
  replace hbz := hbz.ext n7.ext
  replace T1 := T1.ext n7.ext
  replace ib1 := ib1.ext' n7.ext
  replace is := is.ext' n7.ext
  replace x0 := x0.trans n7.ext
  have hr : Has w7 r7 (.cells (tyc t1 a1 c1).toArray 26) := n7.has
  refine zsd ?_
  refine WD.stp rfl rfl rfl rfl (stp_call rfl (t_Valid1 lw hwd hr rfl T1 (by omega))) ?_
  rintro _ w8 ⟨v, rfl, hv, x8⟩
  refine ⟨by first | assumption | exact Ext.rfl' _ | infer_instance, ?_⟩
  replace lw := lw.ext x8
  replace hbz := hbz.ext x8
  replace T1 := T1.ext x8
  replace ib1 := ib1.ext' x8
  replace is := is.ext' x8
  replace x0 := x0.trans x8
  cases v with
  | false =>
    refine zsd ?_
    refine zst ?_
    exact fin1 (.inl rfl) rfl rfl ⟨rfl, x0⟩
  | true =>
    obtain ⟨hV, hT⟩ := hv rfl
    have hok := okD hV hwd
    have hG := hT.good (Nat.le_trans hw1 (by decide))
    obtain ⟨_, hc⟩ := good_cmp hok hG
    obtain ⟨s, al, hz⟩ := exists_sz hok wd mx hc hG
    refine zsd ?_
    refine WD.stp rfl rfl rfl rfl (stp_call rfl (c_Plain hok a cp hz hG a1 c1 w8 _ (fun b hb => hb) lw.hd T1.tys)) ?_
    rintro _ w9 ⟨⟨q, rfl⟩, x9⟩
    refine ⟨by first | assumption | exact Ext.rfl' _ | infer_instance, ?_⟩
    replace lw := lw.ext x9
    replace hbz := hbz.ext x9
    replace T1 := T1.ext x9
    replace ib1 := ib1.ext' x9
    replace is := is.ext' x9
    replace x0 := x0.trans x9
    cases q with
    | false =>
      refine zsd ?_
      refine zst ?_
      exact fin1 (.inl rfl) rfl rfl ⟨rfl, x0⟩
    | true =>
      refine zsd ?_
      refine WD.stp rfl rfl rfl rfl (stp_call rfl (c_iSizeof lw.hp hbz hW hV hT (by omega) (by omega) hRD hR1 hz lw.hd T1.tys)) ?_
      rintro _ w10 ⟨⟨z, rfl, hzz, _⟩, x10⟩
      refine ⟨by first | assumption | exact Ext.rfl' _ | infer_instance, ?_⟩
      replace lw := lw.ext x10
      replace hbz := hbz.ext x10
      replace T1 := T1.ext x10
      replace ib1 := ib1.ext' x10
      replace is := is.ext' x10
      replace x0 := x0.trans x10
      refine zsd ?_
      refine WD.stp rfl rfl rfl rfl (stp_call rfl ((c_SzAl hok a cp hW hz hG hRD hR1).1 a1 c1 w10 _ (fun b hb => hb) lw.hd T1.tys)) ?_
      rintro _ w11 ⟨rfl, x11⟩
      refine ⟨by first | assumption | exact Ext.rfl' _ | infer_instance, ?_⟩
      replace lw := lw.ext x11
      replace hbz := hbz.ext x11
      replace T1 := T1.ext x11
      replace ib1 := ib1.ext' x11
      replace is := is.ext' x11
      replace x0 := x0.trans x11
      refine zsd ?_
      refine WD.stp rfl rfl rfl rfl (stp_call rfl (c_sizedAlike z s w11)) ?_
      rintro _ _ ⟨rfl, rfl⟩
      refine ⟨by first | assumption | exact Ext.rfl' _ | infer_instance, ?_⟩
      rw [alike_true hzz]
      refine zsd ?_
      refine WD.stp rfl rfl rfl rfl (stp_call rfl (c_basic 1 w11)) ?_
      rintro _ w12 ⟨rfl, x12⟩
      refine ⟨by first | assumption | exact Ext.rfl' _ | infer_instance, ?_⟩
      replace lw := lw.ext x12
      replace hbz := hbz.ext x12
      replace T1 := T1.ext x12
      replace ib1 := ib1.ext' x12
      replace is := is.ext' x12
      replace x0 := x0.trans x12
      refine zsd ?_
      refine WD.stp rfl rfl rfl rfl (stp_call rfl (t_intSize lw.hp hbz hW)) ?_
      rintro _ w13 ⟨rfl, x13⟩
      refine ⟨by first | assumption | exact Ext.rfl' _ | infer_instance, ?_⟩
      replace lw := lw.ext x13
      replace hbz := hbz.ext x13
      replace T1 := T1.ext x13
      replace ib1 := ib1.ext' x13
      replace is := is.ext' x13
      replace x0 := x0.trans x13
      refine zsd ?_
      rw [show (wd == wd) = true by simp]
      refine zsd ?_
      refine zst ?_
      exact fin1 (.inl rfl) rfl rfl ⟨rfl, x0⟩
end Go.Proofs.YtpiegpegjbmlkaaGreatDoor.Law

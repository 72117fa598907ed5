/- The walks and the plain laws, part 1. -/
import Derived.Test.YtpiegpegjbmlkaaGreatDoorXf5
namespace Go.Proofs.YtpiegpegjbmlkaaGreatDoor
open Go Go.Kd Go.ChangeShapes Go.WideShapes Go.ChangeAt Go.RowKit
set_option maxRecDepth 100000

abbrev theLaid2 : List (String × DataW Unit) := Rows.fnFieldsRow.laid

noncomputable def wit2 (os : Os) : World := World.laidAll Tryz.prog os theLaid2

theorem wit2_fits (os : Os) : (World.holding Tryz.prog os ⟨#[], #[], []⟩).layFits Tryz.prog theLaid2 [] = true := by kernel_rfl
theorem wit2_ifaces (os : Os) : (World.holding Tryz.prog os ⟨#[], #[], []⟩).layIfaces Tryz.prog theLaid2 (World.laidAll Tryz.prog os theLaid2) = true := by kernel_rfl
theorem wit2_laid (os : Os) (args : Array Value) : laidMet Tryz.prog theLaid2 ((wit2 os).forCall (fun _ _ => 0) ⟨#[], args, []⟩).memory :=
  laidMet_laidAll args (wit2_fits os) (wit2_ifaces os)
theorem wit2_shaped (os : Os) (args : Array Value) : ((wit2 os).forCall (fun _ _ => 0) ⟨#[], args, []⟩).Shaped Tryz.prog :=
  World.shaped_of_ZipB (by kernel_rfl) (by kernel_rfl)

theorem prp2_laid {W : World} (h : laidMetH Tryz.prog theLaid2 W) : Prp W := by
  have h : laidMet Tryz.prog theLaid2 W := h
  obtain ⟨ps, ⟨_, _, _, _, _, _, _, _, _, _, h2, _⟩, _⟩ := h
  obtain ⟨g, t, cs, fuel, p, q, hg, ht, hvar, hd, _, _⟩ := h2
  have hg0 : Tryz.prog.globalNamed "unicode.properties" = some gP := by kernel_rfl
  obtain rfl := Option.some.inj (hg0.symm.trans hg)
  have hty : (Tryz.prog.globals[gP]?).map (·.type) = some 347 := by kernel_rfl
  obtain rfl := Option.some.inj (hty.symm.trans ht)
  have hcs := Lib.cells_of_tab (k := .u8) (zs := nums Rows.laid_unicode_properties) Tryz.underlying347 Tryz.underlying5 (by kernel_rfl) (by kernel_rfl) hd
  have hok : prpOk (nums Rows.laid_unicode_properties) = true := by kernel_rfl
  unfold World.var? at hvar
  rw [hg0] at hvar
  simp only [Option.bind_some] at hvar
  split at hvar
  · rename_i cs' t' fz hh
    have e : cs' = cs := Option.some.inj hvar
    refine ⟨cs', t', fz, hh, fun n hn => ?_⟩
    have h3 := List.all_eq_true.1 hok n (List.mem_range.2 hn)
    have h4 : cs'[n]? = ((nums Rows.laid_unicode_properties).map fun z => Value.int .u8 z)[n]? := by rw [e, ← hcs]; simp
    rw [h4, List.getElem?_map]
    split at h3
    · rename_i v hv
      rw [hv]
      simp only [Bool.and_eq_true, decide_eq_true_eq, beq_iff_eq] at h3
      refine ⟨v, rfl, h3.1, ?_⟩
      have h5 := h3.2
      constructor
      · intro h6
        rw [decide_eq_true h6] at h5
        simpa using h5.symm
      · intro h6
        rw [decide_eq_true h6.1, decide_eq_true h6.2] at h5
        simpa using h5
    · cases h3
  · cases hvar
end Go.Proofs.YtpiegpegjbmlkaaGreatDoor
namespace Go.Proofs.YtpiegpegjbmlkaaGreatDoor.Law
open Go Go.Kd
set_option maxRecDepth 100000

set_option maxHeartbeats 8000000 in
theorem c_FnFields {D : List De} {a : Option Addr} {cp : Nat} {t1 : Ty} {a1 : Option Addr} {c1 : Nat} {t2 : Ty} {a2 : Option Addr} {c2 : Nat} {s3 : ByteArray} {s4 : ByteArray} {s5 : ByteArray} {s6 : ByteArray} {i7 : Int} {i8 : Int} {w : World} (hp : Prp w) (hi7 : (-9223372036854775808 : Int) ≤ i7 ∧ i7 ≤ 9223372036854775807) (hi8 : (-9223372036854775808 : Int) ≤ i8 ∧ i8 ≤ 9223372036854775807) (hwd : wtD D ≤ 1048576) (hw1 : wt t1 ≤ 1048576) (hw2 : wt t2 ≤ 1048576) (hw3 : s3.size ≤ 1048576) (hw4 : s4.size ≤ 1048576) (hw5 : s5.size ≤ 1048576) (hw6 : s6.size ≤ 1048576) (hd : DsV w (fun b => b < w.heap.size) (.slice a D.length cp) D) (ht1 : TysV w (fun b => b < w.heap.size) a1 c1 t1.elems) (ht2 : TysV w (fun b => b < w.heap.size) a2 c2 t2.elems) :
    Calls Tryz.prog 13 #[.slice a D.length cp, .agg (tyc t1 a1 c1).toArray, .agg (tyc t2 a2 c2).toArray, .string s3, .string s4, .string s5, .string s6, .int .i64 i7, .int .i64 i8] w (Ret fun r w' => r = .bool true ∧ Ext w w') := by
  have hDl : D.length ≤ 16777216 := by have := len_wtD D; omega
  have lw : LW D a cp w := ⟨hp, hd⟩
  have T1 : TvV w (.agg (tyc t1 a1 c1).toArray) t1 := ⟨⟨_, _, rfl, ht1⟩⟩
  have T2 : TvV w (.agg (tyc t2 a2 c2).toArray) t2 := ⟨⟨_, _, rfl, ht2⟩⟩
  have x0 : Ext w w := Ext.rfl' w
  have _ := hi7
  have _ := hi8
  refine W.enter9 Tryz.func13 rfl Tryz.ntmps13 rfl ?_
  refine zst ?_
  refine WU.stp rfl rfl rfl (by first | exact stp_box rfl rfl | exact stp_box1 rfl rfl) ?_
  rintro _ w1 ⟨b1, rfl, n1⟩
  replace lw := lw.ext n1.ext
  replace T1 := T1.ext n1.ext
  replace T2 := T2.ext n1.ext
  replace x0 := x0.trans n1.ext
  have ib1 : Has w1 b1 (.cells (tyc t1 a1 c1).toArray 26) := n1.has
  refine zst ?_
  refine WU.stp rfl rfl rfl (by first | exact stp_box rfl rfl | exact stp_box1 rfl rfl) ?_
  rintro _ w2 ⟨b2, rfl, n2⟩
  replace lw := lw.ext n2.ext
  replace T1 := T1.ext n2.ext
  replace T2 := T2.ext n2.ext
  replace ib1 := ib1.ext' n2.ext
  replace x0 := x0.trans n2.ext
  have ib2 : Has w2 b2 (.cells (tyc t2 a2 c2).toArray 26) := n2.has
  refine zst ?_
  rw [show decide ((2147483647 : Int) < (D.length : Int)) = false by simp; omega]
  refine zst ?_
  refine WU.stp rfl rfl rfl (stp_call rfl (c_zzFits1 t1 a1 c1 _ (by omega))) ?_
  rintro _ w3 ⟨rfl, x3⟩
  replace lw := lw.ext x3
  replace T1 := T1.ext x3
  replace T2 := T2.ext x3
  replace ib1 := ib1.ext' x3
  replace ib2 := ib2.ext' x3
  replace x0 := x0.trans x3
  refine zst ?_
  refine WU.stp rfl rfl rfl (stp_call rfl (c_zzFits1 t2 a2 c2 _ (by omega))) ?_
  rintro _ w4 ⟨rfl, x4⟩
  replace lw := lw.ext x4
  replace T1 := T1.ext x4
  replace T2 := T2.ext x4
  replace ib1 := ib1.ext' x4
  replace ib2 := ib2.ext' x4
  replace x0 := x0.trans x4
  refine zst ?_
  rw [show decide ((2147483647 : Int) < (s3.size : Int)) = false by simp; omega]
  refine zst ?_
  rw [show decide ((2147483647 : Int) < (s4.size : Int)) = false by simp; omega]
  refine zst ?_
  rw [show decide ((2147483647 : Int) < (s5.size : Int)) = false by simp; omega]
  refine zst ?_
  rw [show decide ((2147483647 : Int) < (s6.size : Int)) = false by simp; omega]
  refine zst ?_
  refine WU.stp rfl rfl rfl (stp_call rfl (c_place i7 2 _ (by decide))) ?_
  rintro _ _ ⟨rfl, rfl⟩
  refine zst ?_
  refine WU.stp rfl rfl rfl (stp_call rfl (c_place i8 2 _ (by decide))) ?_
  rintro _ _ ⟨rfl, rfl⟩
  refine zst ?_
  generalize i7 % 2 = p
  generalize i8 % 2 = q
  refine W.regT ?_
  intro w5 x5
  replace lw := lw.ext x5
  replace T1 := T1.ext x5
  replace T2 := T2.ext x5
  replace ib1 := ib1.ext' x5
  replace ib2 := ib2.ext' x5
  replace x0 := x0.trans x5
  refine WT.q 0 (by kernel_rfl) (by kernel_rfl) (by kernel_rfl) rfl rfl rfl rfl zyl ?_
  refine WT.q 1 (by kernel_rfl) (by kernel_rfl) (by kernel_rfl) rfl rfl rfl rfl zyl ?_
  refine WT.q 2 (by kernel_rfl) (by kernel_rfl) (by kernel_rfl) rfl rfl rfl rfl zyl ?_
  refine WT.q 3 (by kernel_rfl) (by kernel_rfl) (by kernel_rfl) rfl rfl rfl rfl zyl ?_
  refine WT.q 6 (by kernel_rfl) (by kernel_rfl) (by kernel_rfl) rfl rfl rfl rfl zyl ?_
  refine WT.q 7 (by kernel_rfl) (by kernel_rfl) (by kernel_rfl) rfl rfl rfl rfl zyl ?_
  refine WT.q 8 (by kernel_rfl) (by kernel_rfl) (by kernel_rfl) rfl rfl rfl rfl zyl ?_
  refine WT.q 9 (by kernel_rfl) (by kernel_rfl) (by kernel_rfl) rfl rfl rfl rfl zyl ?_
  refine WT.freeD [⟨4, 64, _, fun _ _ => False, OldT w5.heap.size (fldG s3 s5 t1)⟩, ⟨5, 65, _, blk, MkT w5.heap.size (st1 p (fldG s3 s5 t1))⟩, ⟨10, 70, _, fun _ _ => False, OldT w5.heap.size (fldG s4 s6 t2)⟩, ⟨11, 71, _, blk, MkT w5.heap.size (st1 q (fldG s4 s6 t2))⟩, ⟨12, 19, _, ptB, NewT w5.heap.size⟩, ⟨13, 20, _, ptB, NewT w5.heap.size⟩] (fun | 5 => [4] | 11 => [10] | _ => []) 2 #[true, true, true, true, true, true, true, true, true, true, true, true, true, true, false, false] rfl (by kernel_rfl) rfl rfl ⟨⟨rfl, rfl, rfl, rfl, rfl⟩, ⟨rfl, rfl, rfl, rfl, rfl⟩, ⟨rfl, rfl, rfl, rfl, rfl⟩, ⟨rfl, rfl, rfl, rfl, rfl⟩, ⟨rfl, rfl, rfl, rfl, rfl⟩, ⟨rfl, rfl, rfl, rfl, rfl⟩, trivial⟩
    ⟨fun w' x => stp_oldT rfl (n_fieldG (T1.at_ x)), fun w' x v hv _ => stp_mkT rfl (n_structure hv) x, fun w' x => stp_oldT rfl (n_fieldG (T2.at_ x)), fun w' x v hv _ => stp_mkT rfl (n_structure hv) x, fun _ x => stp_newT x, fun _ x => stp_newT x, trivial⟩ ⟨OldT.okT, MkT.okT, OldT.okT, MkT.okT, NewT.okT, NewT.okT, trivial⟩ ?_
  rintro w6 x6 v64 P64 _ v65 P65 _ v70 P70 _ v71 P71 _ _ ⟨b19, rfl, ib19, h19⟩ s19 _ ⟨b20, rfl, ib20, h20⟩ s20
  obtain ⟨a65, c65, rfl, q65⟩ := P65.1.ex
  obtain ⟨a71, c71, rfl, q71⟩ := P71.1.ex
  refine WT.lin [(14, .z), (15, .z)] (by kernel_rfl) (by kernel_rfl) rfl ?_
  have n19_65 : ¬ (b19 < w5.heap.size ∨ blk (.agg (tyc (st1 p (fldG s3 s5 t1)) a65 c65).toArray) b19) := fun h => h.elim (fun h => by omega) fun h => s19 _ (by simp) b19 h rfl
  have n19_71 : ¬ (b19 < w5.heap.size ∨ blk (.agg (tyc (st1 q (fldG s4 s6 t2)) a71 c71).toArray) b19) := fun h => h.elim (fun h => by omega) fun h => s19 _ (by simp) b19 h rfl
  have n20_65 : ¬ (b20 < w5.heap.size ∨ blk (.agg (tyc (st1 p (fldG s3 s5 t1)) a65 c65).toArray) b20) := fun h => h.elim (fun h => by omega) fun h => s20 _ (by simp) b20 h rfl
  have n20_71 : ¬ (b20 < w5.heap.size ∨ blk (.agg (tyc (st1 q (fldG s4 s6 t2)) a71 c71).toArray) b20) := fun h => h.elim (fun h => by omega) fun h => s20 _ (by simp) b20 h rfl
  have m20_19 : b19 ≠ b20 := fun h => s20 (ptB (pt b19)) (by simp) b20 (by unfold ptB; rw [h]) rfl
  refine zsd ?_
  refine WD.last0 rfl rfl rfl (stp_store_whole rfl rfl rfl rfl) ?_
  rintro _ w7 u19
  replace ib19 : Has w7 b19 _ := u19.has
  replace ib20 := u19.keep ib20 m20_19.symm
  refine zsd ?_
  refine WD.last0 rfl rfl rfl (stp_store_whole rfl rfl rfl rfl) ?_
  rintro _ w8 u20
  replace ib19 := u20.keep ib19 m20_19
  replace ib20 : Has w8 b20 _ := u20.has
  refine zsd ?_
  have xx := (u20.ext (u19.ext x6 h19) h20)
  have V65 : TvV w8 _ (st1 p (fldG s3 s5 t1)) := ((P65.1.upd u19 n19_65).upd u20 n20_65).mono fun b hb => hb.elim (fun hb => by have := xx.size; omega) fun hb => by have := (P65.2 b hb).2; have := u19.size; have := u20.size; omega
  have V71 : TvV w8 _ (st1 q (fldG s4 s6 t2)) := ((P71.1.upd u19 n19_71).upd u20 n20_71).mono fun b hb => hb.elim (fun hb => by have := xx.size; omega) fun hb => by have := (P71.2 b hb).2; have := u19.size; have := u20.size; omega
  replace lw := lw.ext xx
  replace T1 := T1.ext xx
  replace T2 := T2.ext xx
  replace ib1 := ib1.ext' xx
  replace ib2 := ib2.ext' xx
  replace x0 := x0.trans xx
  have wA : wt (st1 p (fldG s3 s5 t1)) ≤ 16777216 := by unfold st1; rw [wt_nd]; have := wt_fldG s3 s5 t1; simp only [wts]; omega
  have wB : wt (st1 q (fldG s4 s6 t2)) ≤ 16777216 := by unfold st1; rw [wt_nd]; have := wt_fldG s4 s6 t2; simp only [wts]; omega
  refine zst ?_
  refine WU.stp rfl rfl rfl (stp_buildSlice rfl rfl rfl rfl rfl) ?_
  rintro _ w9 ⟨r9, rfl, n9⟩
  replace lw := lw.ext n9.ext
  replace T1 := T1.ext n9.ext
  replace T2 := T2.ext n9.ext
  replace ib1 := ib1.ext' n9.ext
  replace ib2 := ib2.ext' n9.ext
  replace ib19 := ib19.ext' n9.ext
  replace ib20 := ib20.ext' n9.ext
  replace V65 := V65.ext n9.ext
  replace V71 := V71.ext n9.ext
  replace x0 := x0.trans n9.ext
  have hr : Has w9 r9 (.cells (tyc (st1 p (fldG s3 s5 t1)) a65 c65 ++ tyc (st1 q (fldG s4 s6 t2)) a71 c71).toArray 26) := n9.has
  refine zst ?_
  refine WU.stp rfl rfl rfl (stp_call rfl (t_Valid2 lw hwd hr rfl rfl V65 V71 (wA) (wB))) ?_
  rintro _ w10 ⟨v, rfl, hv, x10⟩
  replace lw := lw.ext x10
  replace T1 := T1.ext x10
  replace T2 := T2.ext x10
  replace ib1 := ib1.ext' x10
  replace ib2 := ib2.ext' x10
  replace ib19 := ib19.ext' x10
  replace ib20 := ib20.ext' x10
  replace V65 := V65.ext x10
  replace V71 := V71.ext x10
  replace x0 := x0.trans x10
  cases v with
  | false =>
    refine zst ?_
    exact fin1 (.inl rfl) rfl rfl ⟨rfl, x0⟩
  | true =>
    obtain ⟨hV, hA, hB⟩ := hv rfl
    have hok := okD hV hwd
    obtain ⟨hT, c, l, hcl⟩ := valid_st1 hA
    obtain ⟨hU, _⟩ := valid_st1 hB
    obtain ⟨x, V⟩ := VX.ofT hok hV (n := 1048576) hT hw1 (by decide)
    obtain ⟨y, U⟩ := VX.ofT hok hV (n := 1048576) hU hw2 (by decide)
    have VA := VX.st1 hA V hw3 hw5 (by decide)
    have VB := VX.st1 hB U hw4 hw6 (by decide)
    (repeat ((fail_if_success guard_target =~ gW (.seq (.region 7 _ _) _)); (fail_if_success guard_target =~ gW (.seq (.seq (.region 7 _ _) _) _)); refine zs1 ?_))
    refine W.cut [(21, .bool (expo s3.toList)), (0, .slice a D.length cp), (10, pt b1), (11, pt b2), (19, pt b19), (20, pt b20), (3, .string s3), (4, .string s4), (5, .string s5), (6, .string s6), (7, .int .i64 p), (8, .int .i64 q), (18, .bool false)] ?_ ?_
    · refine zst ?_
      refine WU.yld rfl rfl rfl (yld_index_str (i := 0) rfl rfl (by rw [hcl]; rfl)) ?_
      refine zst ?_
      rw [hcl]
      cases h1 : decide ((c.toNat : Int) ≥ 65)
      · have hx : expo (c :: l) = false := by simp at h1; simp [expo]; omega
        rw [hx]
        refine zst ?_
        exact ⟨rfl, rfl, rfl, rfl, rfl, rfl, rfl, rfl, rfl, rfl, rfl, rfl, rfl, rfl, rfl, trivial⟩
      · refine zst ?_
        refine WU.yld rfl rfl rfl (yld_index_str (i := 0) rfl rfl (by rw [hcl]; rfl)) ?_
        refine zst ?_
        have h1' : 65 ≤ c.toNat := by simp at h1; omega
        have hx : expo (c :: l) = decide ((c.toNat : Int) ≤ 90) := by
          by_cases h2 : c.toNat ≤ 90
          · simp [expo, h1', h2]; omega
          · simp [expo, h2]; omega
        rw [hx]
        exact ⟨rfl, rfl, rfl, rfl, rfl, rfl, rfl, rfl, rfl, rfl, rfl, rfl, rfl, rfl, rfl, trivial⟩
    (repeat ((fail_if_success guard_target =~ gW (.seq (.region 8 _ _) _)); (fail_if_success guard_target =~ gW (.seq (.seq (.region 8 _ _) _) _)); refine zs1 ?_))
    refine W.cut [(22, .bool (sameNm s3.toList p s4.toList q)), (21, .bool (expo s3.toList)), (0, .slice a D.length cp), (10, pt b1), (11, pt b2), (19, pt b19), (20, pt b20), (3, .string s3), (4, .string s4), (5, .string s5), (6, .string s6), (7, .int .i64 p), (8, .int .i64 q), (18, .bool false)] ?_ ?_
    · rw [same_nm]
      refine zst ?_
      cases e1 : (s3.toList == s4.toList)
      · refine zst ?_
        exact ⟨rfl, rfl, rfl, rfl, rfl, rfl, rfl, rfl, rfl, rfl, rfl, rfl, rfl, rfl, rfl, rfl, trivial⟩
      · cases e2 : expo s3.toList
        · refine zst ?_
          exact ⟨rfl, rfl, rfl, rfl, rfl, rfl, rfl, rfl, rfl, rfl, rfl, rfl, rfl, rfl, rfl, rfl, trivial⟩
        · refine zst ?_
          exact ⟨rfl, rfl, rfl, rfl, rfl, rfl, rfl, rfl, rfl, rfl, rfl, rfl, rfl, rfl, rfl, rfl, trivial⟩
    refine zst ?_
    refine WU.stp rfl rfl rfl (stp_call rfl (t_Id lw hV hwd V65 V65 VA VA (by decide) (by decide))) ?_
    rintro _ w11 ⟨rfl, x11⟩
    replace lw := lw.ext x11
    replace T1 := T1.ext x11
    replace T2 := T2.ext x11
    replace ib1 := ib1.ext' x11
    replace ib2 := ib2.ext' x11
    replace ib19 := ib19.ext' x11
    replace ib20 := ib20.ext' x11
    replace V65 := V65.ext x11
    replace V71 := V71.ext x11
    replace x0 := x0.trans x11
    refine zst ?_
    rw [idX_refl true _ VA.wf]
    refine zst ?_
    refine WU.stp rfl rfl rfl (stp_call rfl (t_Id lw hV hwd V65 V71 VA VB (by decide) (by decide))) ?_
    rintro _ w12 ⟨rfl, x12⟩
    replace lw := lw.ext x12
    replace T1 := T1.ext x12
    replace T2 := T2.ext x12
    replace ib1 := ib1.ext' x12
    replace ib2 := ib2.ext' x12
    replace ib19 := ib19.ext' x12
    replace ib20 := ib20.ext' x12
    replace V65 := V65.ext x12
    replace V71 := V71.ext x12
    replace x0 := x0.trans x12
    refine zst ?_
    rw [idX_st1]
    cases e1 : sameNm s3.toList p s4.toList q
    · refine zst ?_
      refine WU.stp rfl rfl rfl (stp_call rfl (t_IdT lw hV hwd V65 V71 VA VB (by decide) (by decide))) ?_
      rintro _ w13 ⟨rfl, x13⟩
      replace lw := lw.ext x13
      replace T1 := T1.ext x13
      replace T2 := T2.ext x13
      replace ib1 := ib1.ext' x13
      replace ib2 := ib2.ext' x13
      replace ib19 := ib19.ext' x13
      replace ib20 := ib20.ext' x13
      replace V65 := V65.ext x13
      replace V71 := V71.ext x13
      replace x0 := x0.trans x13
      refine zst ?_
      rw [idX_st1, e1]
      refine zst ?_
      exact fin1 (.inl rfl) rfl rfl ⟨rfl, x0⟩
    · refine zst ?_
      cases e2 : (s5.toList == s6.toList)
      · refine zst ?_
        refine WU.stp rfl rfl rfl (stp_call rfl (t_IdT lw hV hwd V65 V71 VA VB (by decide) (by decide))) ?_
        rintro _ w113 ⟨rfl, x113⟩
        replace lw := lw.ext x113
        replace T1 := T1.ext x113
        replace T2 := T2.ext x113
        replace ib1 := ib1.ext' x113
        replace ib2 := ib2.ext' x113
        replace ib19 := ib19.ext' x113
        replace ib20 := ib20.ext' x113
        replace V65 := V65.ext x113
        replace V71 := V71.ext x113
        replace x0 := x0.trans x113
        refine zst ?_
        rw [idX_st1, e1]
        refine zst ?_
        refine WU.stp rfl rfl rfl (stp_call rfl (t_IdT lw hV hwd T1 T2 V U (by decide) (by decide))) ?_
        rintro _ w114 ⟨rfl, x114⟩
        replace lw := lw.ext x114
        replace T1 := T1.ext x114
        replace T2 := T2.ext x114
        replace ib1 := ib1.ext' x114
        replace ib2 := ib2.ext' x114
        replace ib19 := ib19.ext' x114
        replace ib20 := ib20.ext' x114
        replace V65 := V65.ext x114
        replace V71 := V71.ext x114
        replace x0 := x0.trans x114
        refine zst ?_
        exact fin1 (.inl rfl) rfl rfl ⟨by simp, x0⟩
      · refine zst ?_
        refine WU.stp rfl rfl rfl (stp_call rfl (t_Id lw hV hwd T1 T2 V U (by decide) (by decide))) ?_
        rintro _ w215 ⟨rfl, x215⟩
        replace lw := lw.ext x215
        replace T1 := T1.ext x215
        replace T2 := T2.ext x215
        replace ib1 := ib1.ext' x215
        replace ib2 := ib2.ext' x215
        replace ib19 := ib19.ext' x215
        replace ib20 := ib20.ext' x215
        replace V65 := V65.ext x215
        replace V71 := V71.ext x215
        replace x0 := x0.trans x215
        refine zst ?_
        rw [show (((true && (!true || true)) && idX true x y) == idX true x y) = true by simp]
        refine zst ?_
        refine WU.stp rfl rfl rfl (stp_call rfl (t_IdT lw hV hwd V65 V71 VA VB (by decide) (by decide))) ?_
        rintro _ w216 ⟨rfl, x216⟩
        replace lw := lw.ext x216
        replace T1 := T1.ext x216
        replace T2 := T2.ext x216
        replace ib1 := ib1.ext' x216
        replace ib2 := ib2.ext' x216
        replace ib19 := ib19.ext' x216
        replace ib20 := ib20.ext' x216
        replace V65 := V65.ext x216
        replace V71 := V71.ext x216
        replace x0 := x0.trans x216
        refine zst ?_
        rw [idX_st1, e1]
        refine zst ?_
        refine WU.stp rfl rfl rfl (stp_call rfl (t_IdT lw hV hwd T1 T2 V U (by decide) (by decide))) ?_
        rintro _ w217 ⟨rfl, x217⟩
        replace lw := lw.ext x217
        replace T1 := T1.ext x217
        replace T2 := T2.ext x217
        replace ib1 := ib1.ext' x217
        replace ib2 := ib2.ext' x217
        replace ib19 := ib19.ext' x217
        replace ib20 := ib20.ext' x217
        replace V65 := V65.ext x217
        replace V71 := V71.ext x217
        replace x0 := x0.trans x217
        refine zst ?_
        exact fin1 (.inl rfl) rfl rfl ⟨by simp, x0⟩
end Go.Proofs.YtpiegpegjbmlkaaGreatDoor.Law

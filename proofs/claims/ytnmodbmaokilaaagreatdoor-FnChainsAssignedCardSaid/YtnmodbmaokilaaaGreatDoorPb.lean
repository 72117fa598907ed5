/- The plain family, part 11: FnChainsAssigned. -/
import Derived.Test.YtnmodbmaokilaaaGreatDoorPa
namespace Go.Proofs.YtnmodbmaokilaaaGreatDoor
open Go Go.Kd
set_option maxRecDepth 100000

def isCh : PT → Bool
  | .chan _ _ => true
  | _ => false
theorem DRep.noCh {w : World} {x : Nat} {t : PT} {k n : Int} {s : Value} (h : DRep w x t k n s) (ht : isCh t = false) : (k == 6) = false := by
  cases h <;> first | rfl | simp [isCh] at ht
/-- what FnChainsAssigned wants -/
def asgP (t u : PT) : Bool := match t, u with
  | .chan m t, .chan _ u => if m == 0 then decide (t.gt = u.gt) else false
  | _, _ => false
theorem asgG_no (t u : PT) (h : isCh t = false ∨ isCh u = false) : asgG t.gt u.gt = decide (t.gt = u.gt) := by
  unfold asgG
  rcases h with h | h
  · cases t <;> simp [isCh] at h <;> simp [PT.gt]
  · cases u <;> simp [isCh] at h <;> cases t <;> simp [PT.gt]
theorem asgG_chan (m m' : Int) (t u : PT) : asgG (PT.chan m t).gt (PT.chan m' u).gt = if (m == 0) = true then decide (t.gt = u.gt) else decide ((PT.chan m t).gt = (PT.chan m' u).gt) := by
  unfold asgG
  by_cases h : m = 0
  · subst h
    simp only [PT.gt, GT.chan.injEq, beq_self_eq_true, Bool.true_and, if_true]
    by_cases h2 : t.gt = u.gt <;> simp [h2]
  · simp [PT.gt, h]

set_option maxHeartbeats 4000000 in
theorem c_FnChainsAssigned (l : List Int) (sl : Value) (k : List Int) (sk : Value) (n m : Int) (w : World) (hl : l.length ≤ 9223372036854775807) (hI : Ints w sl l) (hk : k.length ≤ 9223372036854775807) (hK : Ints w sk k) :
    Calls Tryz.prog 6 #[sl, sk, .int .i64 n, .int .i64 m] w (Ret fun r w' => r = .bool true ∧ Ext w w') := by
  obtain ⟨sa, sc, rfl⟩ := hI.shape
  obtain ⟨ka, kc, rfl⟩ := hK.shape
  have hok1 := chainT_ok l n
  have hok2 := chainT_ok k m
  refine W.enter (args := [.slice sa l.length sc, .slice ka k.length kc, .int .i64 n, .int .i64 m]) Tryz.func6 rfl Tryz.ntmps6 rfl rfl ?_
  (repeat (first
      | (guard_target =~ gU _; first
          | (guard_target =~ gU []; first | refine WU.nilk ?_ )
          | refine WU.yld rfl rfl rfl (by first | (guard_target =~ gY (.move _); exact ze rfl) | (guard_target =~ gY (.assign _); exact yf rfl) | (guard_target =~ gY (.binOp .gtr _ _ _ _); exact yv rfl rfl) | (guard_target =~ gY (.call _); first | exact yx rfl ) ) ?_
          )
      | (guard_target =~ gW (.seq _ _); refine W.seq ?_)
      | (guard_target =~ gW (.region _ _ false); refine W.reg ?_)
      ))
  by_cases h1 : l.length > 2147483647
  · rw [show decide ((l.length : Int) > 2147483647) = true from decide_eq_true (by omega)]
    (repeat (first
        | (guard_target =~ gU _; first
            | (guard_target =~ gU []; first | refine WU.nilk ?_ )
            | refine WU.yld rfl rfl rfl (by first | (guard_target =~ gY (.move _); exact ze rfl) | (guard_target =~ gY (.assign _); exact yf rfl) | (guard_target =~ gY (.pick _ _ _); first | exact zv rfl rfl ) ) ?_
            | refine WU.skip rfl rfl rfl ?_)
        | (guard_target =~ gW (.seq _ _); refine W.seq ?_)
        | (guard_target =~ gW (.region _ _ false); refine W.reg ?_)
        | (guard_target =~ gW (.cond _ _ _); first | refine W.cond_t rfl ?_ )
        | (guard_target =~ gW .ret; refine W.ret ?_)
        | (guard_target =~ gT .ret; refine thn_ret ?_)
        ))
    exact fin1 (.inl rfl) rfl rfl ⟨rfl, Ext.rfl' _⟩
  rw [show decide ((l.length : Int) > 2147483647) = false from decide_eq_false (by omega)]
  (repeat (first
      | (guard_target =~ gU _; first
          | (guard_target =~ gU []; first | refine WU.nilk ?_ )
          | refine WU.yld rfl rfl rfl (by first | (guard_target =~ gY (.move _); exact ze rfl) | (guard_target =~ gY (.pick _ _ _); first | exact zu rfl rfl ) | (guard_target =~ gY (.binOp .gtr _ _ _ _); exact yv rfl rfl) | (guard_target =~ gY (.call _); first | exact yx rfl ) ) ?_
          )
      ))
  by_cases h2 : k.length > 2147483647
  · rw [show decide ((k.length : Int) > 2147483647) = true from decide_eq_true (by omega)]
    (repeat (first
        | (guard_target =~ gU _; first
            | (guard_target =~ gU []; first | refine WU.nilk ?_ )
            | refine WU.yld rfl rfl rfl (by first | (guard_target =~ gY (.assign _); exact yf rfl) ) ?_
            )
        | (guard_target =~ gW (.seq _ _); refine W.seq ?_)
        | (guard_target =~ gW (.region _ _ false); refine W.reg ?_)
        | (guard_target =~ gW (.cond _ _ _); first | refine W.cond_t rfl ?_ )
        | (guard_target =~ gW .ret; refine W.ret ?_)
        | (guard_target =~ gT .ret; refine thn_ret ?_)
        ))
    exact fin1 (.inl rfl) rfl rfl ⟨rfl, Ext.rfl' _⟩
  rw [show decide ((k.length : Int) > 2147483647) = false from decide_eq_false (by omega)]
  (repeat (first
      | (guard_target =~ gU _; first
          | refine WU.yld rfl rfl rfl (by first | (guard_target =~ gY (.move _); exact ze rfl) ) ?_
          )
      | (guard_target =~ gW (.seq _ _); refine W.seq ?_)
      | (guard_target =~ gW (.region _ _ false); refine W.reg ?_)
      | (guard_target =~ gW (.cond _ _ _); first | refine W.cond_f rfl ?_)
      | (guard_target =~ gW .skip; refine W.skip ?_)
      ))
  refine WU.stp rfl rfl rfl (stp_call rfl (c_chain l n _ w (by omega) hI)) ?_
  rintro _ w2 ⟨b2, k2, n2, a2, lc2, c2, rfl, hd2, x2⟩
  (repeat (first
      | (guard_target =~ gU _; first
          | refine WU.yld rfl rfl rfl (by first | (guard_target =~ gY (.move _); exact ze rfl) ) ?_
          )
      ))
  refine WU.stp rfl rfl rfl (stp_call rfl (c_chain k m _ w2 (by omega) (hK.ext x2))) ?_
  rintro _ w3 ⟨b3, k3, n3, a3, lc3, c3, rfl, hd3, x3⟩
  generalize chainT l n = t at hd2 hok1
  generalize chainT k m = u at hd3 hok2
  refine WU.stp rfl rfl rfl stp_alloc ?_
  rintro _ w4 ⟨b4, rfl, n4⟩
  refine WU.stp rfl rfl rfl stp_alloc ?_
  rintro _ w5 ⟨b5, rfl, n5⟩
  have hm4 := n4.num
  have hm5 := n5.num
  have hs4 := n4.size
  have hs5 := n5.size
  have s2 := x2.size
  have s3 := x3.size
  refine WU.stp0 rfl rfl (stp_store_whole rfl rfl rfl rfl) ?_
  rintro _ w6 u6
  have i5' : Has w6 b5 _ := u6.keep n5.has (by omega)
  refine WU.stp0 rfl rfl (stp_store_whole rfl rfl rfl rfl) ?_
  rintro _ w7 u7
  have e6 : Ext w3 w6 := u6.ext (n4.ext.trans n5.ext) (by omega)
  have e7 : Ext w3 w7 := u7.ext e6 (by omega)
  have i4 : Has w7 b4 _ := u7.keep u6.has (by omega)
  have i5 : Has w7 b5 _ := u7.has
  have hd2' := hd2.ext (x3.trans e7)
  have hd3' := hd3.ext e7
  have x7 : Ext w w7 := x2.trans (x3.trans e7)
  clear u6 u7 n4 n5 e6 e7 hd2 hd3 x2 x3
  (repeat (first
      | (guard_target =~ gU _; first
          | (guard_target =~ gU []; first | refine WU.nilk ?_ )
          | refine WU.yld rfl rfl rfl (by first | (guard_target =~ gY (.load _ _); first | exact zb rfl) ) ?_
          )
      | (guard_target =~ gW (.seq _ _); refine W.seq ?_)
      | (guard_target =~ gW (.region _ _ false); refine W.reg ?_)
      ))
  refine WU.stp rfl rfl rfl (stp_call rfl (c_IdenticalPlain hd2' hd3' hok1 hok2)) ?_
  rintro _ w8 ⟨rfl, x8⟩
  have hd2 := hd2'.ext x8
  have hd3 := hd3'.ext x8
  have x0 := x7.trans x8
  clear hd2' hd3'
  (repeat (first
      | (guard_target =~ gU _; first
          | (guard_target =~ gU []; first | refine WU.nilk ?_ )
          | refine WU.yld rfl rfl rfl (by first | (guard_target =~ gY (.move _); exact ze rfl) | (guard_target =~ gY (.assign _); exact yf rfl) | (guard_target =~ gY (.load _ _); first | exact za rfl rfl ) | (guard_target =~ gY (.fieldAddr _ _ _); exact yt rfl) | (guard_target =~ gY (.binOp .eql _ _ _ _); first | exact yl rfl rfl ) ) ?_
          )
      | (guard_target =~ gW (.seq _ _); refine W.seq ?_)
      | (guard_target =~ gW (.region _ _ false); refine W.reg ?_)
      ))
  by_cases hc2 : isCh t = true
  · cases t <;> try (simp [isCh] at hc2; done)
    rename_i d t
    cases hd2 with
    | chan hb2 hh2 he2 =>
    have hd2 := DRep.chan (m := n2) hb2 hh2 he2
    by_cases hc3 : isCh u = true
    · cases u <;> try (simp [isCh] at hc3; done)
      rename_i d' u
      cases hd3 with
      | chan hb3 hh3 he3 =>
      have hd3 := DRep.chan (m := n3) hb3 hh3 he3
      have hasg := asgG_chan n2 n3 t u
      obtain ⟨hokd, hokt⟩ := hok1
      obtain ⟨hokd', hoku⟩ := hok2
      (repeat (first
          | (guard_target =~ gU _; first
              | (guard_target =~ gU []; first | refine WU.nilk ?_ )
              | refine WU.yld rfl rfl rfl (by first | (guard_target =~ gY (.move _); exact ze rfl) | (guard_target =~ gY (.load _ _); first | exact za rfl rfl ) | (guard_target =~ gY (.fieldAddr _ _ _); exact yt rfl) | (guard_target =~ gY (.pick _ _ _); first | exact zv rfl rfl ) | (guard_target =~ gY (.binOp .eql _ _ _ _); first | exact yl rfl rfl ) ) ?_
              )
          ))
      cases hn : n2 == 0
      · rw [hn, if_neg (by simp)] at hasg
        (repeat (first
            | (guard_target =~ gU _; first
                | refine WU.yld rfl rfl rfl (by first | (guard_target =~ gY (.load _ _); first | exact zb rfl) ) ?_
                )
            | (guard_target =~ gW (.seq _ _); refine W.seq ?_)
            | (guard_target =~ gW (.region _ _ false); refine W.reg ?_)
            | (guard_target =~ gW (.cond _ _ _); first | refine W.cond_f rfl ?_)
            | (guard_target =~ gW .skip; refine W.skip ?_)
            ))
        refine WU.stp rfl rfl rfl (stp_call rfl (c_AssignablePlain hd2 hd3 ⟨hokd, hokt⟩ ⟨hokd', hoku⟩)) ?_
        rintro _ w9 ⟨rfl, x9⟩
        rw [hasg]
        (repeat (first
            | (guard_target =~ gU _; first
                | refine WU.yld rfl rfl rfl (by first | (guard_target =~ gY (.move _); exact ze rfl) | (guard_target =~ gY (.load _ _); first | exact zb rfl) | (guard_target =~ gY (.binOp .eql _ _ _ _); first | exact yh rfl rfl ) ) ?_
                )
            ))
        rw [show (decide ((PT.chan n2 t).gt = (PT.chan n3 u).gt) == decide ((PT.chan n2 t).gt = (PT.chan n3 u).gt)) = true by simp]
        (repeat (first
            | (guard_target =~ gU _; first
                | refine WU.yld rfl rfl rfl (by first | (guard_target =~ gY (.load _ _); first | exact zb rfl) ) ?_
                )
            ))
        refine WU.stp rfl rfl rfl (stp_call rfl (c_IdenticalPlain (hd2.ext x9) (hd2.ext x9) ⟨hokd, hokt⟩ ⟨hokd, hokt⟩)) ?_
        rintro _ w10 ⟨rfl, x10⟩
        (repeat (first
            | (guard_target =~ gU _; first
                | (guard_target =~ gU []; first | refine WU.nilk ?_ )
                | refine WU.yld rfl rfl rfl (by first | (guard_target =~ gY (.assign _); exact yf rfl) | (guard_target =~ gY (.pick _ _ _); first | exact zv rfl rfl ) ) ?_
                )
            | (guard_target =~ gW .ret; refine W.ret ?_)
            ))
        exact fin1 (.inl rfl) rfl rfl ⟨by simp, x0.trans (x9.trans x10)⟩
      · rw [hn, if_pos rfl] at hasg
        (repeat (first
            | (guard_target =~ gW (.cond _ _ _); first | refine W.cond_t rfl ?_ )
            ))
        refine W.regD [(0, .q), (1, .q), (2, .q), (3, .q), (4, .q), (5, .q), (6, .q), (7, .q), (8, .l), (9, .q)] (by kernel_rfl) (by kernel_rfl) rfl ?_
        intro wd yd' _
        (repeat (first
            | refine WD.yld rfl rfl rfl rfl (by first | (guard_target =~ gY (.load _ _); first | exact za rfl rfl | exact zb rfl) | (guard_target =~ gY (.fieldAddr _ _ _); exact yt rfl) | (guard_target =~ gY (.indexAddr _ _ _); exact yw rfl rfl (by omega) (by omega))) ?_
            ))
        refine WD.stp rfl rfl rfl rfl (stp_call rfl (c_IdenticalPlain (he2.ext yd') (he3.ext yd') hokt hoku)) ?_
        rintro _ we ⟨rfl, xe⟩
        refine ⟨by first | assumption | exact Ext.rfl' _ | infer_instance, ?_⟩
        (repeat (first
            | (guard_target =~ WD _ _ _ _ [] _ _ _; first | refine WD.nilk ?_ )
            | refine WD.yld rfl rfl rfl rfl (by first | (guard_target =~ gY (.assign _); exact yf rfl) ) ?_
            ))
        have xf := yd'.trans xe
        have hd2' := hd2.ext xf
        have hd3' := hd3.ext xf
        (repeat (first
            | (guard_target =~ gU _; first
                | refine WU.yld rfl rfl rfl (by first | (guard_target =~ gY (.load _ _); first | exact zb rfl) ) ?_
                )
            | (guard_target =~ gW (.seq _ _); refine W.seq ?_)
            | (guard_target =~ gW (.region _ _ false); refine W.reg ?_)
            ))
        refine WU.stp rfl rfl rfl (stp_call rfl (c_AssignablePlain hd2' hd3' ⟨hokd, hokt⟩ ⟨hokd', hoku⟩)) ?_
        rintro _ w9 ⟨rfl, x9⟩
        rw [hasg]
        (repeat (first
            | (guard_target =~ gU _; first
                | refine WU.yld rfl rfl rfl (by first | (guard_target =~ gY (.move _); exact ze rfl) | (guard_target =~ gY (.load _ _); first | exact zb rfl) | (guard_target =~ gY (.binOp .eql _ _ _ _); first | exact yh rfl rfl ) ) ?_
                )
            ))
        rw [show (decide (t.gt = u.gt) == decide (t.gt = u.gt)) = true by simp]
        (repeat (first
            | (guard_target =~ gU _; first
                | refine WU.yld rfl rfl rfl (by first | (guard_target =~ gY (.load _ _); first | exact zb rfl) ) ?_
                )
            ))
        refine WU.stp rfl rfl rfl (stp_call rfl (c_IdenticalPlain (hd2'.ext x9) (hd2'.ext x9) ⟨hokd, hokt⟩ ⟨hokd, hokt⟩)) ?_
        rintro _ w10 ⟨rfl, x10⟩
        (repeat (first
            | (guard_target =~ gU _; first
                | (guard_target =~ gU []; first | refine WU.nilk ?_ )
                | refine WU.yld rfl rfl rfl (by first | (guard_target =~ gY (.assign _); exact yf rfl) | (guard_target =~ gY (.pick _ _ _); first | exact zv rfl rfl ) ) ?_
                )
            | (guard_target =~ gW .ret; refine W.ret ?_)
            ))
        exact fin1 (.inl rfl) rfl rfl ⟨by simp, x0.trans (xf.trans (x9.trans x10))⟩
    · have hcu : isCh u = false := by simpa using hc3
      have hk := hd3.noCh hcu
      have hasg := asgG_no (.chan n2 t) u (.inr hcu)
      (repeat (first
          | (guard_target =~ gU _; first
              | refine WU.yld rfl rfl rfl (by first | (guard_target =~ gY (.move _); exact ze rfl) | (guard_target =~ gY (.load _ _); first | exact za rfl rfl ) | (guard_target =~ gY (.fieldAddr _ _ _); exact yt rfl) | (guard_target =~ gY (.pick _ _ _); first | exact zv rfl rfl ) | (guard_target =~ gY (.binOp .eql _ _ _ _); first | exact yl rfl rfl ) ) ?_
              )
          ))
      rw [hk]
      (repeat (first
          | (guard_target =~ gU _; first
              | (guard_target =~ gU []; first | refine WU.nilk ?_ )
              | refine WU.yld rfl rfl rfl (by first | (guard_target =~ gY (.load _ _); first | exact zb rfl) | (guard_target =~ gY (.fieldAddr _ _ _); exact yt rfl) | (guard_target =~ gY (.pick _ _ _); first | exact zu rfl rfl ) ) ?_
              | refine WU.skip rfl rfl rfl ?_)
          | (guard_target =~ gW (.seq _ _); refine W.seq ?_)
          | (guard_target =~ gW (.region _ _ false); refine W.reg ?_)
          | (guard_target =~ gW (.cond _ _ _); first | refine W.cond_f rfl ?_)
          | (guard_target =~ gW .skip; refine W.skip ?_)
          ))
      refine WU.stp rfl rfl rfl (stp_call rfl (c_AssignablePlain hd2 hd3 hok1 hok2)) ?_
      rintro _ w9 ⟨rfl, x9⟩
      rw [hasg]
      (repeat (first
          | (guard_target =~ gU _; first
              | refine WU.yld rfl rfl rfl (by first | (guard_target =~ gY (.move _); exact ze rfl) | (guard_target =~ gY (.load _ _); first | exact zb rfl) | (guard_target =~ gY (.binOp .eql _ _ _ _); first | exact yh rfl rfl ) ) ?_
              )
          ))
      rw [show (decide ((PT.chan n2 t).gt = u.gt) == decide ((PT.chan n2 t).gt = u.gt)) = true by simp]
      (repeat (first
          | (guard_target =~ gU _; first
              | refine WU.yld rfl rfl rfl (by first | (guard_target =~ gY (.load _ _); first | exact zb rfl) ) ?_
              )
          ))
      refine WU.stp rfl rfl rfl (stp_call rfl (c_IdenticalPlain (hd2.ext x9) (hd2.ext x9) hok1 hok1)) ?_
      rintro _ w10 ⟨rfl, x10⟩
      (repeat (first
          | (guard_target =~ gU _; first
              | (guard_target =~ gU []; first | refine WU.nilk ?_ )
              | refine WU.yld rfl rfl rfl (by first | (guard_target =~ gY (.assign _); exact yf rfl) | (guard_target =~ gY (.pick _ _ _); first | exact zv rfl rfl ) ) ?_
              )
          | (guard_target =~ gW .ret; refine W.ret ?_)
          ))
      exact fin1 (.inl rfl) rfl rfl ⟨by simp, x0.trans (x9.trans x10)⟩
  · have hct : isCh t = false := by simpa using hc2
    have hk := hd2.noCh hct
    have hasg := asgG_no t u (.inl hct)
    rw [hk]
    (repeat (first
        | (guard_target =~ gU _; first
            | (guard_target =~ gU []; first | refine WU.nilk ?_ )
            | refine WU.yld rfl rfl rfl (by first | (guard_target =~ gY (.move _); exact ze rfl) | (guard_target =~ gY (.load _ _); first | exact zb rfl) | (guard_target =~ gY (.fieldAddr _ _ _); exact yt rfl) | (guard_target =~ gY (.pick _ _ _); first | exact zu rfl rfl ) ) ?_
            | refine WU.skip rfl rfl rfl ?_)
        | (guard_target =~ gW (.seq _ _); refine W.seq ?_)
        | (guard_target =~ gW (.region _ _ false); refine W.reg ?_)
        | (guard_target =~ gW (.cond _ _ _); first | refine W.cond_f rfl ?_)
        | (guard_target =~ gW .skip; refine W.skip ?_)
        ))
    refine WU.stp rfl rfl rfl (stp_call rfl (c_AssignablePlain hd2 hd3 hok1 hok2)) ?_
    rintro _ w9 ⟨rfl, x9⟩
    rw [hasg]
    (repeat (first
        | (guard_target =~ gU _; first
            | refine WU.yld rfl rfl rfl (by first | (guard_target =~ gY (.move _); exact ze rfl) | (guard_target =~ gY (.load _ _); first | exact zb rfl) | (guard_target =~ gY (.binOp .eql _ _ _ _); first | exact yh rfl rfl ) ) ?_
            )
        ))
    rw [show (decide (t.gt = u.gt) == decide (t.gt = u.gt)) = true by simp]
    (repeat (first
        | (guard_target =~ gU _; first
            | refine WU.yld rfl rfl rfl (by first | (guard_target =~ gY (.load _ _); first | exact zb rfl) ) ?_
            )
        ))
    refine WU.stp rfl rfl rfl (stp_call rfl (c_IdenticalPlain (hd2.ext x9) (hd2.ext x9) hok1 hok1)) ?_
    rintro _ w10 ⟨rfl, x10⟩
    (repeat (first
        | (guard_target =~ gU _; first
            | (guard_target =~ gU []; first | refine WU.nilk ?_ )
            | refine WU.yld rfl rfl rfl (by first | (guard_target =~ gY (.assign _); exact yf rfl) | (guard_target =~ gY (.pick _ _ _); first | exact zv rfl rfl ) ) ?_
            )
        | (guard_target =~ gW .ret; refine W.ret ?_)
        ))
    exact fin1 (.inl rfl) rfl rfl ⟨by simp, x0.trans (x9.trans x10)⟩
end Go.Proofs.YtnmodbmaokilaaaGreatDoor

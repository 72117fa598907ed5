/- The plain family, part 6: Identical, IdenticalPlain; FnBasics. -/
import Derived.Test.YtnmodbmaokilaaaGreatDoorP5
namespace Go.Proofs.YtnmodbmaokilaaaGreatDoor
open Go Go.Kd
set_option maxRecDepth 100000

theorem c_identical {ig : Bool} : ∀ (x y : GT) (vx vy : Value) (w : World) (bc : Nat), Rep w vx x → Rep w vy y → cmpr w bc ig →
    Idn ig w bc vx vy (decide (x = y)) := by
  intro x
  induction x with
  | basic k =>
    intro y vx vy w bc hx hy hc
    obtain ⟨bx, rfl, hpx⟩ := hx.shape
    obtain ⟨by_, rfl, hpy⟩ := hy.shape
    cases y with
    | basic k' =>
      by_cases hb : bx = by_
      · subst hb; rw [decide_eq_true (hx.det hy)]; exact id_same (T := 50) hpx hc rfl
      · cases hx; cases hy
        rename_i h1 _ _ h2
        exact (show decide (GT.basic k = GT.basic k') = (k == k') by rw [Bool.eq_iff_iff]; simp) ▸ id_yes_basic h1 h2 hc hb
    | _ => exact id_no_basic hpx hpy hc rfl (by simp [tagOf])
  | ptr t ih =>
    intro y vx vy w bc hx hy hc
    obtain ⟨bx, rfl, hpx⟩ := hx.shape
    obtain ⟨by_, rfl, hpy⟩ := hy.shape
    cases y with
    | ptr t' =>
      by_cases hb : bx = by_
      · subst hb; rw [decide_eq_true (hx.det hy)]; exact id_same (T := 54) hpx hc rfl
      · cases hx; cases hy
        rename_i v1 h1 r1 v2 h2 r2
        obtain ⟨b1, rfl, p1⟩ := r1.shape
        obtain ⟨b2, rfl, p2⟩ := r2.shape
        rw [show decide (GT.ptr t = GT.ptr t') = decide (t = t') by rw [Bool.eq_iff_iff]; simp]
        exact id_yes_ptr h1 h2 hc hb (fun w' hw => ih t' _ _ w' bc (r1.ext hw) (r2.ext hw) (hc.ext' hw))
    | _ => exact id_no_ptr hpx hpy hc rfl (by simp [tagOf])
  | slice t ih =>
    intro y vx vy w bc hx hy hc
    obtain ⟨bx, rfl, hpx⟩ := hx.shape
    obtain ⟨by_, rfl, hpy⟩ := hy.shape
    cases y with
    | slice t' =>
      by_cases hb : bx = by_
      · subst hb; rw [decide_eq_true (hx.det hy)]; exact id_same (T := 56) hpx hc rfl
      · cases hx; cases hy
        rename_i v1 h1 r1 v2 h2 r2
        rw [show decide (GT.slice t = GT.slice t') = decide (t = t') by rw [Bool.eq_iff_iff]; simp]
        exact id_yes_slice h1 h2 hc hb (fun w' hw => ih t' _ _ w' bc (r1.ext hw) (r2.ext hw) (hc.ext' hw))
    | _ => exact id_no_slice hpx hpy hc rfl (by simp [tagOf])
  | array n t ih =>
    intro y vx vy w bc hx hy hc
    obtain ⟨bx, rfl, hpx⟩ := hx.shape
    obtain ⟨by_, rfl, hpy⟩ := hy.shape
    cases y with
    | array n' t' =>
      by_cases hb : bx = by_
      · subst hb; rw [decide_eq_true (hx.det hy)]; exact id_same (T := 58) hpx hc rfl
      · cases hx; cases hy
        rename_i v1 h0 h1 r1 v2 h0' h2 r2
        rw [show decide (GT.array n t = GT.array n' t') = (n == n' && decide (t = t')) by rw [Bool.eq_iff_iff]; simp]
        exact id_yes_array h1 h2 h0 h0' hc hb (fun w' hw => ih t' _ _ w' bc (r1.ext hw) (r2.ext hw) (hc.ext' hw))
    | _ => exact id_no_array hpx hpy hc rfl (by simp [tagOf])
  | chan n t ih =>
    intro y vx vy w bc hx hy hc
    obtain ⟨bx, rfl, hpx⟩ := hx.shape
    obtain ⟨by_, rfl, hpy⟩ := hy.shape
    cases y with
    | chan n' t' =>
      by_cases hb : bx = by_
      · subst hb; rw [decide_eq_true (hx.det hy)]; exact id_same (T := 60) hpx hc rfl
      · cases hx; cases hy
        rename_i v1 h1 r1 v2 h2 r2
        rw [show decide (GT.chan n t = GT.chan n' t') = (n == n' && decide (t = t')) by rw [Bool.eq_iff_iff]; simp]
        exact id_yes_chan h1 h2 hc hb (fun w' hw => ih t' _ _ w' bc (r1.ext hw) (r2.ext hw) (hc.ext' hw))
    | _ => exact id_no_chan hpx hpy hc rfl (by simp [tagOf])
  | map k t ihk ih =>
    intro y vx vy w bc hx hy hc
    obtain ⟨bx, rfl, hpx⟩ := hx.shape
    obtain ⟨by_, rfl, hpy⟩ := hy.shape
    cases y with
    | map k' t' =>
      by_cases hb : bx = by_
      · subst hb; rw [decide_eq_true (hx.det hy)]; exact id_same (T := 64) hpx hc rfl
      · cases hx; cases hy
        rename_i v1 u1 h1 s1 r1 v2 u2 h2 s2 r2
        rw [show decide (GT.map k t = GT.map k' t') = (decide (k = k') && decide (t = t')) by rw [Bool.eq_iff_iff]; simp]
        exact id_yes_map h1 h2 hc hb (fun w' hw => ihk k' _ _ w' bc (s1.ext hw) (s2.ext hw) (hc.ext' hw)) (fun w' hw => ih t' _ _ w' bc (r1.ext hw) (r2.ext hw) (hc.ext' hw))
    | _ => exact id_no_map hpx hpy hc rfl (by simp [tagOf])

theorem c_Identical {x y : GT} {vx vy : Value} {w : World} (hx : Rep w vx x) (hy : Rep w vy y) :
    Calls Tryz.prog 19 #[vx, vy] w (Ret fun r w' => r = .bool (decide (x = y)) ∧ Ext w w') := by
  refine W.enter (args := [vx, vy]) Tryz.func19 rfl Tryz.ntmps19 rfl rfl ?_
  (repeat (first
      | (guard_target =~ gU _; first
          | (guard_target =~ gU []; first | refine WU.nilk ?_ )
          | refine WU.yld rfl rfl rfl (by first | (guard_target =~ gY (.assign _); exact yf rfl) ) ?_
          )
      | (guard_target =~ gW (.seq _ _); refine W.seq ?_)
      | (guard_target =~ gW (.region _ _ false); refine W.reg ?_)
      ))
  refine WU.stp rfl rfl rfl stp_alloc ?_
  rintro _ w1 ⟨b1, rfl, n1⟩
  (repeat (first
      | (guard_target =~ gU _; first
          | (guard_target =~ gU []; first | refine WU.nilk ?_ )
          | refine WU.yld rfl rfl rfl (by first | (guard_target =~ gY (.move _); exact ze rfl) ) ?_
          )
      | (guard_target =~ gW (.seq _ _); refine W.seq ?_)
      | (guard_target =~ gW (.region _ _ false); refine W.reg ?_)
      ))
  refine WU.stp rfl rfl rfl (stp_call rfl (c_identical x y _ _ w1 b1 (hx.ext n1.ext) (hy.ext n1.ext) n1.has)) ?_
  rintro _ w2 ⟨rfl, x2⟩
  (repeat (first
      | (guard_target =~ gU _; first
          | (guard_target =~ gU []; first | refine WU.nilk ?_ )
          | refine WU.yld rfl rfl rfl (by first | (guard_target =~ gY (.assign _); exact yf rfl) ) ?_
          )
      | (guard_target =~ gW .ret; refine W.ret ?_)
      ))
  exact fin1 (.inl rfl) rfl rfl ⟨rfl, n1.ext.trans x2⟩

theorem c_IdenticalPlain {x y : Nat} {t u : PT} {w : World} {k n k' n' : Int} {a a' : Option Addr} {l c l' c' : Nat} {nm tg nm' tg' : ByteArray} {em em' : Bool}
    (hx : DRep w x t k n (.slice a l c)) (hy : DRep w y u k' n' (.slice a' l' c')) (ht : t.ok) (hu : u.ok) :
    Calls Tryz.prog 10 #[tyv k n 0 false (.slice a l c) nm tg em, tyv k' n' 0 false (.slice a' l' c') nm' tg' em'] w
      (Ret fun r w' => r = .bool (decide (t.gt = u.gt)) ∧ Ext w w') := by
  refine W.enter (args := [tyv k n 0 false (.slice a l c) nm tg em, tyv k' n' 0 false (.slice a' l' c') nm' tg' em']) Tryz.func10 rfl Tryz.ntmps10 rfl rfl ?_
  (repeat (first
      | (guard_target =~ gW (.seq _ _); refine W.seq ?_)
      | (guard_target =~ gW (.region _ _ false); refine W.reg ?_)
      ))
  refine WU.stp rfl rfl rfl (by first | exact stp_box rfl rfl | exact stp_box1 rfl rfl) ?_
  rintro _ w1 ⟨b1, rfl, n1⟩
  refine WU.stp rfl rfl rfl (by first | exact stp_box rfl rfl | exact stp_box1 rfl rfl) ?_
  rintro _ w2 ⟨b2, rfl, n2⟩
  (repeat (first
      | (guard_target =~ gU _; first
          | (guard_target =~ gU []; first | refine WU.nilk ?_ )
          | refine WU.yld rfl rfl rfl (by first | (guard_target =~ gY (.assign _); exact yf rfl) ) ?_
          )
      | (guard_target =~ gW (.seq _ _); refine W.seq ?_)
      ))
  have x2 := n1.ext.trans n2.ext
  refine W.regD [(0, .q), (2, .q), (1, .l), (3, .l), (4, .l), (5, .q)] (by kernel_rfl) (by kernel_rfl) rfl ?_
  intro w3 x3 _
  (repeat (first
      | refine WD.yld rfl rfl rfl rfl (by first | (guard_target =~ gY (.load _ _); first | exact zb rfl) ) ?_
      ))
  refine WD.stp rfl rfl rfl rfl (stp_call rfl (c_plain hx nm tg em w3 (x2.trans x3) ht)) ?_
  rintro _ w4 ⟨hr, x4⟩
  refine ⟨by first | assumption | exact Ext.rfl' _ | infer_instance, ?_⟩
  skip
  refine WD.stp rfl rfl rfl rfl (stp_call rfl (c_plain hy nm' tg' em' w4 (x2.trans (x3.trans x4)) hu)) ?_
  rintro _ w5 ⟨hs, x5⟩
  refine ⟨by first | assumption | exact Ext.rfl' _ | infer_instance, ?_⟩
  refine WD.stp rfl rfl rfl rfl (stp_call rfl (c_Identical (hr.ext x5) hs)) ?_
  rintro _ w6 ⟨rfl, x6⟩
  refine ⟨by first | assumption | exact Ext.rfl' _ | infer_instance, ?_⟩
  (repeat (first
      | (guard_target =~ WD _ _ _ _ [] _ _ _; first | refine WD.nilk ?_ )
      | refine WD.yld rfl rfl rfl rfl (by first | (guard_target =~ gY (.assign _); exact yf rfl) ) ?_
      ))
  (repeat (first
      | (guard_target =~ gW .ret; refine W.ret ?_)
      ))
  exact fin1 (.inl rfl) rfl rfl ⟨rfl, x2.trans (x3.trans (x4.trans (x5.trans x6)))⟩

theorem c_FnBasics (n m : Int) (w : World) :
    Calls Tryz.prog 3 #[.int .i64 n, .int .i64 m] w (Ret fun r w' => r = .bool true ∧ Ext w w') := by
  refine W.enter (args := [.int .i64 n, .int .i64 m]) Tryz.func3 rfl Tryz.ntmps3 rfl rfl ?_
  (repeat (first
      | (guard_target =~ gU _; first
          | (guard_target =~ gU []; first | refine WU.nilk ?_ )
          | refine WU.yld rfl rfl rfl (by first | (guard_target =~ gY (.move _); exact ze rfl) | (guard_target =~ gY (.assign _); exact yf rfl) ) ?_
          )
      | (guard_target =~ gW (.seq _ _); refine W.seq ?_)
      | (guard_target =~ gW (.region _ _ false); refine W.reg ?_)
      ))
  refine WU.stp rfl rfl rfl (stp_call rfl (c_place n 20 w (by omega))) ?_
  rintro _ w2 ⟨rfl, rfl⟩
  (repeat (first
      | (guard_target =~ gU _; first
          | refine WU.yld rfl rfl rfl (by first | (guard_target =~ gY (.move _); exact ze rfl) ) ?_
          )
      ))
  refine WU.stp rfl rfl rfl (stp_call rfl (c_place m 20 w (by omega))) ?_
  rintro _ w2 ⟨rfl, rfl⟩
  (repeat (first
      | (guard_target =~ gU _; first
          | (guard_target =~ gU []; first | refine WU.nilk ?_ )
          | refine WU.yld rfl rfl rfl (by first | (guard_target =~ gY (.move _); exact ze rfl) | (guard_target =~ gY (.assign _); exact yf rfl) ) ?_
          )
      | (guard_target =~ gW (.seq _ _); refine W.seq ?_)
      | (guard_target =~ gW (.region _ _ false); refine W.reg ?_)
      ))
  refine WU.stp rfl rfl rfl (stp_call rfl (c_basic (n % 20) w)) ?_
  rintro _ w1 ⟨rfl, x1⟩
  (repeat (first
      | (guard_target =~ gU _; first
          | refine WU.yld rfl rfl rfl (by first | (guard_target =~ gY (.move _); exact ze rfl) ) ?_
          )
      ))
  refine WU.stp rfl rfl rfl (stp_call rfl (c_basic (m % 20) w1)) ?_
  rintro _ w2 ⟨rfl, x2⟩
  refine WU.stp rfl rfl rfl (stp_call rfl (c_IdenticalPlain (DRep.basic (x := 0) (n % 20)) (DRep.basic (x := 0) (m % 20)) (by unfold PT.ok; omega) (by unfold PT.ok; omega))) ?_
  rintro _ w3 ⟨rfl, x3⟩
  (repeat (first
      | (guard_target =~ gU _; first
          | refine WU.yld rfl rfl rfl (by first | (guard_target =~ gY (.move _); exact ze rfl) ) ?_
          )
      ))
  refine WU.stp rfl rfl rfl (stp_call rfl (c_original (n % 20) w3)) ?_
  rintro _ w4 ⟨rfl, rfl⟩
  (repeat (first
      | (guard_target =~ gU _; first
          | refine WU.yld rfl rfl rfl (by first | (guard_target =~ gY (.move _); exact ze rfl) ) ?_
          )
      ))
  refine WU.stp rfl rfl rfl (stp_call rfl (c_original (m % 20) w3)) ?_
  rintro _ w4 ⟨rfl, rfl⟩
  (repeat (first
      | (guard_target =~ gU _; first
          | (guard_target =~ gU []; first | refine WU.nilk ?_ )
          | refine WU.yld rfl rfl rfl (by first | (guard_target =~ gY (.assign _); exact yf rfl) | (guard_target =~ gY (.binOp .eql _ _ _ _); first | exact yl rfl rfl | exact yh rfl rfl ) ) ?_
          )
      | (guard_target =~ gW .ret; refine W.ret ?_)
      ))
  exact fin1 (.inl rfl) rfl rfl ⟨by
    have : decide ((PT.basic (n % 20)).gt = (PT.basic (m % 20)).gt) = (orig (n % 20) == orig (m % 20)) := by
      rw [Bool.eq_iff_iff]; simp [PT.gt]
    rw [this]; simp [orig], x1.trans (x2.trans x3)⟩
end Go.Proofs.YtnmodbmaokilaaaGreatDoor

/- The plain family, part 17: FnNumbers, the walk. -/
import Derived.Test.YtnmodbmaokilaaaGreatDoorPg
namespace Go.Proofs.YtnmodbmaokilaaaGreatDoor
open Go Go.Kd
set_option maxRecDepth 100000

set_option maxHeartbeats 2000000 in
theorem num4 {x y : Int} {q : Bool} {w0 w : World} (hX : 0 ≤ x ∧ x < 20) (hY : 0 ≤ y ∧ y < 20) (hq : convG (PT.basic x).gt (PT.basic y).gt = q) (hw : Ext w0 w) :
    ∃ c, dropO 4 (bodyOf Tryz.f7) = some c ∧ W Tryz.prog 71 c (fin Tryz.prog Tryz.f7 (Ret fun v w' => v = .bool true ∧ Ext w0 w')) []
      [(0, .int .i64 x), (1, .int .i64 y), (7, .bool q)] w := by
  refine ⟨_, rfl, ?_⟩
  (repeat (first
      | (guard_target =~ gU _; first
          | (guard_target =~ gU []; first | refine WU.nilk ?_ | refine WU.nil ?_)
          | refine WU.yld rfl rfl rfl (by first | (guard_target =~ gY (.move _); exact ze rfl) | (guard_target =~ gY (.assign _); exact yf rfl) | (guard_target =~ gY (.load _ _); first | exact za rfl rfl | exact zb rfl) | (guard_target =~ gY (.fieldAddr _ _ _); exact yt rfl) | (guard_target =~ gY (.nilCheck _); first | exact zq rfl | exact zr rfl) | (guard_target =~ gY (.extract _ _); exact ys rfl rfl) | (guard_target =~ gY (.typeAssert _ _ _ true); first | exact ye rfl rfl | exact yd rfl rfl (by first | rfl | assumption) | exact yc rfl rfl) | (guard_target =~ gY (.typeAssert _ _ _ false); exact yb rfl rfl) | (guard_target =~ gY (.makeInterface _ _); exact zd rfl rfl) | (guard_target =~ gY (.pick _ _ _); first | exact zv rfl rfl | exact zu rfl rfl | exact zt rfl rfl rfl) | (guard_target =~ gY (.binOp .neq _ _ _ _); first | exact zj rfl rfl | exact zn rfl rfl | exact zm rfl rfl | exact zg rfl rfl | exact zh rfl rfl | exact zl rfl rfl | exact zf rfl rfl | exact zp rfl rfl | exact zk rfl rfl | exact zo rfl rfl | exact zi (by first | decide | assumption) rfl rfl) | (guard_target =~ gY (.binOp .eql _ _ _ _); first | exact yl rfl rfl | exact yp rfl rfl | exact yo rfl rfl | exact yi rfl rfl | exact yj rfl rfl | exact yn rfl rfl | exact yh rfl rfl | exact yr rfl rfl | exact ym rfl rfl | exact yq rfl rfl | exact yk (by first | decide | assumption) rfl rfl) | (guard_target =~ gY (.unOp .not _ _); exact zs rfl) | (guard_target =~ gY (.binOp .lss _ _ _ _); exact zc rfl rfl) | (guard_target =~ gY (.binOp .leq _ _ _ _); exact yz rfl rfl) | (guard_target =~ gY (.binOp .gtr _ _ _ _); exact yv rfl rfl) | (guard_target =~ gY (.binOp .geq _ _ _ _); exact yu rfl rfl) | (guard_target =~ gY (.binOp .add _ _ _ _); exact ya rfl rfl (by omega)) | (guard_target =~ gY (.binOp .sub _ _ _ _); exact zw rfl rfl (by omega)) | (guard_target =~ gY (.call _); first | exact yx rfl | exact yy rfl) | (guard_target =~ gY (.build _ _); exact yg rfl rfl) | (guard_target =~ gY (.indexAddr _ _ _); exact yw rfl rfl (by omega) (by omega))) ?_
          | refine WU.skip rfl rfl rfl ?_)
      | (guard_target =~ gW (.seq _ _); refine W.seq ?_)
      | (guard_target =~ gW (.region _ _ false); refine W.reg ?_)
      | (guard_target =~ gW (.cond _ _ _); first | refine W.cond_t rfl ?_ | refine W.cond_f rfl ?_)
      | (guard_target =~ gW (.block _ _); refine W.block ?_)
      | (guard_target =~ gW .skip; refine W.skip ?_)
      | (guard_target =~ gW (.exit _); refine W.exit ?_)
      | (guard_target =~ gW .ret; refine W.ret ?_)
      | (guard_target =~ gT .normal; refine thn_normal ?_)
      | (guard_target =~ gT (.exit _); refine thn_exit ?_)
      | (guard_target =~ gT .ret; refine thn_ret ?_)
      | (guard_target =~ gI .normal; refine inb_normal ?_)
      | (guard_target =~ gI (.exit _); first | refine inb_hit ?_ | refine inb_miss rfl ?_)
      | (guard_target =~ gI .ret; refine inb_ret ?_)))
  refine WU.stp rfl rfl rfl (stp_call rfl (c_basic x w)) ?_
  rintro _ w1 ⟨rfl, x1⟩
  (repeat (first
      | (guard_target =~ gU _; first
          | (guard_target =~ gU []; first | refine WU.nilk ?_ | refine WU.nil ?_)
          | refine WU.yld rfl rfl rfl (by first | (guard_target =~ gY (.move _); exact ze rfl) | (guard_target =~ gY (.assign _); exact yf rfl) | (guard_target =~ gY (.load _ _); first | exact za rfl rfl | exact zb rfl) | (guard_target =~ gY (.fieldAddr _ _ _); exact yt rfl) | (guard_target =~ gY (.nilCheck _); first | exact zq rfl | exact zr rfl) | (guard_target =~ gY (.extract _ _); exact ys rfl rfl) | (guard_target =~ gY (.typeAssert _ _ _ true); first | exact ye rfl rfl | exact yd rfl rfl (by first | rfl | assumption) | exact yc rfl rfl) | (guard_target =~ gY (.typeAssert _ _ _ false); exact yb rfl rfl) | (guard_target =~ gY (.makeInterface _ _); exact zd rfl rfl) | (guard_target =~ gY (.pick _ _ _); first | exact zv rfl rfl | exact zu rfl rfl | exact zt rfl rfl rfl) | (guard_target =~ gY (.binOp .neq _ _ _ _); first | exact zj rfl rfl | exact zn rfl rfl | exact zm rfl rfl | exact zg rfl rfl | exact zh rfl rfl | exact zl rfl rfl | exact zf rfl rfl | exact zp rfl rfl | exact zk rfl rfl | exact zo rfl rfl | exact zi (by first | decide | assumption) rfl rfl) | (guard_target =~ gY (.binOp .eql _ _ _ _); first | exact yl rfl rfl | exact yp rfl rfl | exact yo rfl rfl | exact yi rfl rfl | exact yj rfl rfl | exact yn rfl rfl | exact yh rfl rfl | exact yr rfl rfl | exact ym rfl rfl | exact yq rfl rfl | exact yk (by first | decide | assumption) rfl rfl) | (guard_target =~ gY (.unOp .not _ _); exact zs rfl) | (guard_target =~ gY (.binOp .lss _ _ _ _); exact zc rfl rfl) | (guard_target =~ gY (.binOp .leq _ _ _ _); exact yz rfl rfl) | (guard_target =~ gY (.binOp .gtr _ _ _ _); exact yv rfl rfl) | (guard_target =~ gY (.binOp .geq _ _ _ _); exact yu rfl rfl) | (guard_target =~ gY (.binOp .add _ _ _ _); exact ya rfl rfl (by omega)) | (guard_target =~ gY (.binOp .sub _ _ _ _); exact zw rfl rfl (by omega)) | (guard_target =~ gY (.call _); first | exact yx rfl | exact yy rfl) | (guard_target =~ gY (.build _ _); exact yg rfl rfl) | (guard_target =~ gY (.indexAddr _ _ _); exact yw rfl rfl (by omega) (by omega))) ?_
          | refine WU.skip rfl rfl rfl ?_)
      | (guard_target =~ gW (.seq _ _); refine W.seq ?_)
      | (guard_target =~ gW (.region _ _ false); refine W.reg ?_)
      | (guard_target =~ gW (.cond _ _ _); first | refine W.cond_t rfl ?_ | refine W.cond_f rfl ?_)
      | (guard_target =~ gW (.block _ _); refine W.block ?_)
      | (guard_target =~ gW .skip; refine W.skip ?_)
      | (guard_target =~ gW (.exit _); refine W.exit ?_)
      | (guard_target =~ gW .ret; refine W.ret ?_)
      | (guard_target =~ gT .normal; refine thn_normal ?_)
      | (guard_target =~ gT (.exit _); refine thn_exit ?_)
      | (guard_target =~ gT .ret; refine thn_ret ?_)
      | (guard_target =~ gI .normal; refine inb_normal ?_)
      | (guard_target =~ gI (.exit _); first | refine inb_hit ?_ | refine inb_miss rfl ?_)
      | (guard_target =~ gI .ret; refine inb_ret ?_)))
  refine WU.stp rfl rfl rfl (stp_call rfl (c_basic y w1)) ?_
  rintro _ w2 ⟨rfl, x2⟩
  refine WU.stp rfl rfl rfl (stp_call rfl (c_ConvertiblePlain (DRep.basic (x := 0) x) (DRep.basic (x := 0) y) (by unfold PT.ok; omega) (by unfold PT.ok; omega))) ?_
  rintro _ w3 ⟨rfl, x3⟩
  rw [hq]
  (repeat (first
      | (guard_target =~ gU _; first
          | (guard_target =~ gU []; first | refine WU.nilk ?_ | refine WU.nil ?_)
          | refine WU.yld rfl rfl rfl (by first | (guard_target =~ gY (.move _); exact ze rfl) | (guard_target =~ gY (.assign _); exact yf rfl) | (guard_target =~ gY (.load _ _); first | exact za rfl rfl | exact zb rfl) | (guard_target =~ gY (.fieldAddr _ _ _); exact yt rfl) | (guard_target =~ gY (.nilCheck _); first | exact zq rfl | exact zr rfl) | (guard_target =~ gY (.extract _ _); exact ys rfl rfl) | (guard_target =~ gY (.typeAssert _ _ _ true); first | exact ye rfl rfl | exact yd rfl rfl (by first | rfl | assumption) | exact yc rfl rfl) | (guard_target =~ gY (.typeAssert _ _ _ false); exact yb rfl rfl) | (guard_target =~ gY (.makeInterface _ _); exact zd rfl rfl) | (guard_target =~ gY (.pick _ _ _); first | exact zv rfl rfl | exact zu rfl rfl | exact zt rfl rfl rfl) | (guard_target =~ gY (.binOp .neq _ _ _ _); first | exact zj rfl rfl | exact zn rfl rfl | exact zm rfl rfl | exact zg rfl rfl | exact zh rfl rfl | exact zl rfl rfl | exact zf rfl rfl | exact zp rfl rfl | exact zk rfl rfl | exact zo rfl rfl | exact zi (by first | decide | assumption) rfl rfl) | (guard_target =~ gY (.binOp .eql _ _ _ _); first | exact yl rfl rfl | exact yp rfl rfl | exact yo rfl rfl | exact yi rfl rfl | exact yj rfl rfl | exact yn rfl rfl | exact yh rfl rfl | exact yr rfl rfl | exact ym rfl rfl | exact yq rfl rfl | exact yk (by first | decide | assumption) rfl rfl) | (guard_target =~ gY (.unOp .not _ _); exact zs rfl) | (guard_target =~ gY (.binOp .lss _ _ _ _); exact zc rfl rfl) | (guard_target =~ gY (.binOp .leq _ _ _ _); exact yz rfl rfl) | (guard_target =~ gY (.binOp .gtr _ _ _ _); exact yv rfl rfl) | (guard_target =~ gY (.binOp .geq _ _ _ _); exact yu rfl rfl) | (guard_target =~ gY (.binOp .add _ _ _ _); exact ya rfl rfl (by omega)) | (guard_target =~ gY (.binOp .sub _ _ _ _); exact zw rfl rfl (by omega)) | (guard_target =~ gY (.call _); first | exact yx rfl | exact yy rfl) | (guard_target =~ gY (.build _ _); exact yg rfl rfl) | (guard_target =~ gY (.indexAddr _ _ _); exact yw rfl rfl (by omega) (by omega))) ?_
          | refine WU.skip rfl rfl rfl ?_)
      | (guard_target =~ gW (.seq _ _); refine W.seq ?_)
      | (guard_target =~ gW (.region _ _ false); refine W.reg ?_)
      | (guard_target =~ gW (.cond _ _ _); first | refine W.cond_t rfl ?_ | refine W.cond_f rfl ?_)
      | (guard_target =~ gW (.block _ _); refine W.block ?_)
      | (guard_target =~ gW .skip; refine W.skip ?_)
      | (guard_target =~ gW (.exit _); refine W.exit ?_)
      | (guard_target =~ gW .ret; refine W.ret ?_)
      | (guard_target =~ gT .normal; refine thn_normal ?_)
      | (guard_target =~ gT (.exit _); refine thn_exit ?_)
      | (guard_target =~ gT .ret; refine thn_ret ?_)
      | (guard_target =~ gI .normal; refine inb_normal ?_)
      | (guard_target =~ gI (.exit _); first | refine inb_hit ?_ | refine inb_miss rfl ?_)
      | (guard_target =~ gI .ret; refine inb_ret ?_)))
  rw [show (q == q) = true by simp]
  (repeat (first
      | (guard_target =~ gU _; first
          | (guard_target =~ gU []; first | refine WU.nilk ?_ | refine WU.nil ?_)
          | refine WU.yld rfl rfl rfl (by first | (guard_target =~ gY (.move _); exact ze rfl) | (guard_target =~ gY (.assign _); exact yf rfl) | (guard_target =~ gY (.load _ _); first | exact za rfl rfl | exact zb rfl) | (guard_target =~ gY (.fieldAddr _ _ _); exact yt rfl) | (guard_target =~ gY (.nilCheck _); first | exact zq rfl | exact zr rfl) | (guard_target =~ gY (.extract _ _); exact ys rfl rfl) | (guard_target =~ gY (.typeAssert _ _ _ true); first | exact ye rfl rfl | exact yd rfl rfl (by first | rfl | assumption) | exact yc rfl rfl) | (guard_target =~ gY (.typeAssert _ _ _ false); exact yb rfl rfl) | (guard_target =~ gY (.makeInterface _ _); exact zd rfl rfl) | (guard_target =~ gY (.pick _ _ _); first | exact zv rfl rfl | exact zu rfl rfl | exact zt rfl rfl rfl) | (guard_target =~ gY (.binOp .neq _ _ _ _); first | exact zj rfl rfl | exact zn rfl rfl | exact zm rfl rfl | exact zg rfl rfl | exact zh rfl rfl | exact zl rfl rfl | exact zf rfl rfl | exact zp rfl rfl | exact zk rfl rfl | exact zo rfl rfl | exact zi (by first | decide | assumption) rfl rfl) | (guard_target =~ gY (.binOp .eql _ _ _ _); first | exact yl rfl rfl | exact yp rfl rfl | exact yo rfl rfl | exact yi rfl rfl | exact yj rfl rfl | exact yn rfl rfl | exact yh rfl rfl | exact yr rfl rfl | exact ym rfl rfl | exact yq rfl rfl | exact yk (by first | decide | assumption) rfl rfl) | (guard_target =~ gY (.unOp .not _ _); exact zs rfl) | (guard_target =~ gY (.binOp .lss _ _ _ _); exact zc rfl rfl) | (guard_target =~ gY (.binOp .leq _ _ _ _); exact yz rfl rfl) | (guard_target =~ gY (.binOp .gtr _ _ _ _); exact yv rfl rfl) | (guard_target =~ gY (.binOp .geq _ _ _ _); exact yu rfl rfl) | (guard_target =~ gY (.binOp .add _ _ _ _); exact ya rfl rfl (by omega)) | (guard_target =~ gY (.binOp .sub _ _ _ _); exact zw rfl rfl (by omega)) | (guard_target =~ gY (.call _); first | exact yx rfl | exact yy rfl) | (guard_target =~ gY (.build _ _); exact yg rfl rfl) | (guard_target =~ gY (.indexAddr _ _ _); exact yw rfl rfl (by omega) (by omega))) ?_
          | refine WU.skip rfl rfl rfl ?_)
      | (guard_target =~ gW (.seq _ _); refine W.seq ?_)
      | (guard_target =~ gW (.region _ _ false); refine W.reg ?_)
      | (guard_target =~ gW (.cond _ _ _); first | refine W.cond_t rfl ?_ | refine W.cond_f rfl ?_)
      | (guard_target =~ gW (.block _ _); refine W.block ?_)
      | (guard_target =~ gW .skip; refine W.skip ?_)
      | (guard_target =~ gW (.exit _); refine W.exit ?_)
      | (guard_target =~ gW .ret; refine W.ret ?_)
      | (guard_target =~ gT .normal; refine thn_normal ?_)
      | (guard_target =~ gT (.exit _); refine thn_exit ?_)
      | (guard_target =~ gT .ret; refine thn_ret ?_)
      | (guard_target =~ gI .normal; refine inb_normal ?_)
      | (guard_target =~ gI (.exit _); first | refine inb_hit ?_ | refine inb_miss rfl ?_)
      | (guard_target =~ gI .ret; refine inb_ret ?_)))
  refine WU.stp rfl rfl rfl (stp_call rfl (c_basic x w3)) ?_
  rintro _ w4 ⟨rfl, x4⟩
  (repeat (first
      | (guard_target =~ gU _; first
          | (guard_target =~ gU []; first | refine WU.nilk ?_ | refine WU.nil ?_)
          | refine WU.yld rfl rfl rfl (by first | (guard_target =~ gY (.move _); exact ze rfl) | (guard_target =~ gY (.assign _); exact yf rfl) | (guard_target =~ gY (.load _ _); first | exact za rfl rfl | exact zb rfl) | (guard_target =~ gY (.fieldAddr _ _ _); exact yt rfl) | (guard_target =~ gY (.nilCheck _); first | exact zq rfl | exact zr rfl) | (guard_target =~ gY (.extract _ _); exact ys rfl rfl) | (guard_target =~ gY (.typeAssert _ _ _ true); first | exact ye rfl rfl | exact yd rfl rfl (by first | rfl | assumption) | exact yc rfl rfl) | (guard_target =~ gY (.typeAssert _ _ _ false); exact yb rfl rfl) | (guard_target =~ gY (.makeInterface _ _); exact zd rfl rfl) | (guard_target =~ gY (.pick _ _ _); first | exact zv rfl rfl | exact zu rfl rfl | exact zt rfl rfl rfl) | (guard_target =~ gY (.binOp .neq _ _ _ _); first | exact zj rfl rfl | exact zn rfl rfl | exact zm rfl rfl | exact zg rfl rfl | exact zh rfl rfl | exact zl rfl rfl | exact zf rfl rfl | exact zp rfl rfl | exact zk rfl rfl | exact zo rfl rfl | exact zi (by first | decide | assumption) rfl rfl) | (guard_target =~ gY (.binOp .eql _ _ _ _); first | exact yl rfl rfl | exact yp rfl rfl | exact yo rfl rfl | exact yi rfl rfl | exact yj rfl rfl | exact yn rfl rfl | exact yh rfl rfl | exact yr rfl rfl | exact ym rfl rfl | exact yq rfl rfl | exact yk (by first | decide | assumption) rfl rfl) | (guard_target =~ gY (.unOp .not _ _); exact zs rfl) | (guard_target =~ gY (.binOp .lss _ _ _ _); exact zc rfl rfl) | (guard_target =~ gY (.binOp .leq _ _ _ _); exact yz rfl rfl) | (guard_target =~ gY (.binOp .gtr _ _ _ _); exact yv rfl rfl) | (guard_target =~ gY (.binOp .geq _ _ _ _); exact yu rfl rfl) | (guard_target =~ gY (.binOp .add _ _ _ _); exact ya rfl rfl (by omega)) | (guard_target =~ gY (.binOp .sub _ _ _ _); exact zw rfl rfl (by omega)) | (guard_target =~ gY (.call _); first | exact yx rfl | exact yy rfl) | (guard_target =~ gY (.build _ _); exact yg rfl rfl) | (guard_target =~ gY (.indexAddr _ _ _); exact yw rfl rfl (by omega) (by omega))) ?_
          | refine WU.skip rfl rfl rfl ?_)
      | (guard_target =~ gW (.seq _ _); refine W.seq ?_)
      | (guard_target =~ gW (.region _ _ false); refine W.reg ?_)
      | (guard_target =~ gW (.cond _ _ _); first | refine W.cond_t rfl ?_ | refine W.cond_f rfl ?_)
      | (guard_target =~ gW (.block _ _); refine W.block ?_)
      | (guard_target =~ gW .skip; refine W.skip ?_)
      | (guard_target =~ gW (.exit _); refine W.exit ?_)
      | (guard_target =~ gW .ret; refine W.ret ?_)
      | (guard_target =~ gT .normal; refine thn_normal ?_)
      | (guard_target =~ gT (.exit _); refine thn_exit ?_)
      | (guard_target =~ gT .ret; refine thn_ret ?_)
      | (guard_target =~ gI .normal; refine inb_normal ?_)
      | (guard_target =~ gI (.exit _); first | refine inb_hit ?_ | refine inb_miss rfl ?_)
      | (guard_target =~ gI .ret; refine inb_ret ?_)))
  refine WU.stp rfl rfl rfl (stp_call rfl (c_basic y w4)) ?_
  rintro _ w5 ⟨rfl, x5⟩
  refine WU.stp rfl rfl rfl (stp_call rfl (c_AssignablePlain (DRep.basic (x := 0) x) (DRep.basic (x := 0) y) (by unfold PT.ok; omega) (by unfold PT.ok; omega))) ?_
  rintro _ w6 ⟨rfl, x6⟩
  rw [asgG_basic]
  (repeat (first
      | (guard_target =~ gU _; first
          | (guard_target =~ gU []; first | refine WU.nilk ?_ | refine WU.nil ?_)
          | refine WU.yld rfl rfl rfl (by first | (guard_target =~ gY (.move _); exact ze rfl) | (guard_target =~ gY (.assign _); exact yf rfl) | (guard_target =~ gY (.load _ _); first | exact za rfl rfl | exact zb rfl) | (guard_target =~ gY (.fieldAddr _ _ _); exact yt rfl) | (guard_target =~ gY (.nilCheck _); first | exact zq rfl | exact zr rfl) | (guard_target =~ gY (.extract _ _); exact ys rfl rfl) | (guard_target =~ gY (.typeAssert _ _ _ true); first | exact ye rfl rfl | exact yd rfl rfl (by first | rfl | assumption) | exact yc rfl rfl) | (guard_target =~ gY (.typeAssert _ _ _ false); exact yb rfl rfl) | (guard_target =~ gY (.makeInterface _ _); exact zd rfl rfl) | (guard_target =~ gY (.pick _ _ _); first | exact zv rfl rfl | exact zu rfl rfl | exact zt rfl rfl rfl) | (guard_target =~ gY (.binOp .neq _ _ _ _); first | exact zj rfl rfl | exact zn rfl rfl | exact zm rfl rfl | exact zg rfl rfl | exact zh rfl rfl | exact zl rfl rfl | exact zf rfl rfl | exact zp rfl rfl | exact zk rfl rfl | exact zo rfl rfl | exact zi (by first | decide | assumption) rfl rfl) | (guard_target =~ gY (.binOp .eql _ _ _ _); first | exact yl rfl rfl | exact yp rfl rfl | exact yo rfl rfl | exact yi rfl rfl | exact yj rfl rfl | exact yn rfl rfl | exact yh rfl rfl | exact yr rfl rfl | exact ym rfl rfl | exact yq rfl rfl | exact yk (by first | decide | assumption) rfl rfl) | (guard_target =~ gY (.unOp .not _ _); exact zs rfl) | (guard_target =~ gY (.binOp .lss _ _ _ _); exact zc rfl rfl) | (guard_target =~ gY (.binOp .leq _ _ _ _); exact yz rfl rfl) | (guard_target =~ gY (.binOp .gtr _ _ _ _); exact yv rfl rfl) | (guard_target =~ gY (.binOp .geq _ _ _ _); exact yu rfl rfl) | (guard_target =~ gY (.binOp .add _ _ _ _); exact ya rfl rfl (by omega)) | (guard_target =~ gY (.binOp .sub _ _ _ _); exact zw rfl rfl (by omega)) | (guard_target =~ gY (.call _); first | exact yx rfl | exact yy rfl) | (guard_target =~ gY (.build _ _); exact yg rfl rfl) | (guard_target =~ gY (.indexAddr _ _ _); exact yw rfl rfl (by omega) (by omega))) ?_
          | refine WU.skip rfl rfl rfl ?_)
      | (guard_target =~ gW (.seq _ _); refine W.seq ?_)
      | (guard_target =~ gW (.region _ _ false); refine W.reg ?_)
      | (guard_target =~ gW (.cond _ _ _); first | refine W.cond_t rfl ?_ | refine W.cond_f rfl ?_)
      | (guard_target =~ gW (.block _ _); refine W.block ?_)
      | (guard_target =~ gW .skip; refine W.skip ?_)
      | (guard_target =~ gW (.exit _); refine W.exit ?_)
      | (guard_target =~ gW .ret; refine W.ret ?_)
      | (guard_target =~ gT .normal; refine thn_normal ?_)
      | (guard_target =~ gT (.exit _); refine thn_exit ?_)
      | (guard_target =~ gT .ret; refine thn_ret ?_)
      | (guard_target =~ gI .normal; refine inb_normal ?_)
      | (guard_target =~ gI (.exit _); first | refine inb_hit ?_ | refine inb_miss rfl ?_)
      | (guard_target =~ gI .ret; refine inb_ret ?_)))
  refine WU.stp rfl rfl rfl (stp_call rfl (c_original x w6)) ?_
  rintro _ w7 ⟨rfl, rfl⟩
  (repeat (first
      | (guard_target =~ gU _; first
          | (guard_target =~ gU []; first | refine WU.nilk ?_ | refine WU.nil ?_)
          | refine WU.yld rfl rfl rfl (by first | (guard_target =~ gY (.move _); exact ze rfl) | (guard_target =~ gY (.assign _); exact yf rfl) | (guard_target =~ gY (.load _ _); first | exact za rfl rfl | exact zb rfl) | (guard_target =~ gY (.fieldAddr _ _ _); exact yt rfl) | (guard_target =~ gY (.nilCheck _); first | exact zq rfl | exact zr rfl) | (guard_target =~ gY (.extract _ _); exact ys rfl rfl) | (guard_target =~ gY (.typeAssert _ _ _ true); first | exact ye rfl rfl | exact yd rfl rfl (by first | rfl | assumption) | exact yc rfl rfl) | (guard_target =~ gY (.typeAssert _ _ _ false); exact yb rfl rfl) | (guard_target =~ gY (.makeInterface _ _); exact zd rfl rfl) | (guard_target =~ gY (.pick _ _ _); first | exact zv rfl rfl | exact zu rfl rfl | exact zt rfl rfl rfl) | (guard_target =~ gY (.binOp .neq _ _ _ _); first | exact zj rfl rfl | exact zn rfl rfl | exact zm rfl rfl | exact zg rfl rfl | exact zh rfl rfl | exact zl rfl rfl | exact zf rfl rfl | exact zp rfl rfl | exact zk rfl rfl | exact zo rfl rfl | exact zi (by first | decide | assumption) rfl rfl) | (guard_target =~ gY (.binOp .eql _ _ _ _); first | exact yl rfl rfl | exact yp rfl rfl | exact yo rfl rfl | exact yi rfl rfl | exact yj rfl rfl | exact yn rfl rfl | exact yh rfl rfl | exact yr rfl rfl | exact ym rfl rfl | exact yq rfl rfl | exact yk (by first | decide | assumption) rfl rfl) | (guard_target =~ gY (.unOp .not _ _); exact zs rfl) | (guard_target =~ gY (.binOp .lss _ _ _ _); exact zc rfl rfl) | (guard_target =~ gY (.binOp .leq _ _ _ _); exact yz rfl rfl) | (guard_target =~ gY (.binOp .gtr _ _ _ _); exact yv rfl rfl) | (guard_target =~ gY (.binOp .geq _ _ _ _); exact yu rfl rfl) | (guard_target =~ gY (.binOp .add _ _ _ _); exact ya rfl rfl (by omega)) | (guard_target =~ gY (.binOp .sub _ _ _ _); exact zw rfl rfl (by omega)) | (guard_target =~ gY (.call _); first | exact yx rfl | exact yy rfl) | (guard_target =~ gY (.build _ _); exact yg rfl rfl) | (guard_target =~ gY (.indexAddr _ _ _); exact yw rfl rfl (by omega) (by omega))) ?_
          | refine WU.skip rfl rfl rfl ?_)
      | (guard_target =~ gW (.seq _ _); refine W.seq ?_)
      | (guard_target =~ gW (.region _ _ false); refine W.reg ?_)
      | (guard_target =~ gW (.cond _ _ _); first | refine W.cond_t rfl ?_ | refine W.cond_f rfl ?_)
      | (guard_target =~ gW (.block _ _); refine W.block ?_)
      | (guard_target =~ gW .skip; refine W.skip ?_)
      | (guard_target =~ gW (.exit _); refine W.exit ?_)
      | (guard_target =~ gW .ret; refine W.ret ?_)
      | (guard_target =~ gT .normal; refine thn_normal ?_)
      | (guard_target =~ gT (.exit _); refine thn_exit ?_)
      | (guard_target =~ gT .ret; refine thn_ret ?_)
      | (guard_target =~ gI .normal; refine inb_normal ?_)
      | (guard_target =~ gI (.exit _); first | refine inb_hit ?_ | refine inb_miss rfl ?_)
      | (guard_target =~ gI .ret; refine inb_ret ?_)))
  refine WU.stp rfl rfl rfl (stp_call rfl (c_original y w6)) ?_
  rintro _ w7 ⟨rfl, rfl⟩
  (repeat (first
      | (guard_target =~ gU _; first
          | (guard_target =~ gU []; first | refine WU.nilk ?_ | refine WU.nil ?_)
          | refine WU.yld rfl rfl rfl (by first | (guard_target =~ gY (.move _); exact ze rfl) | (guard_target =~ gY (.assign _); exact yf rfl) | (guard_target =~ gY (.load _ _); first | exact za rfl rfl | exact zb rfl) | (guard_target =~ gY (.fieldAddr _ _ _); exact yt rfl) | (guard_target =~ gY (.nilCheck _); first | exact zq rfl | exact zr rfl) | (guard_target =~ gY (.extract _ _); exact ys rfl rfl) | (guard_target =~ gY (.typeAssert _ _ _ true); first | exact ye rfl rfl | exact yd rfl rfl (by first | rfl | assumption) | exact yc rfl rfl) | (guard_target =~ gY (.typeAssert _ _ _ false); exact yb rfl rfl) | (guard_target =~ gY (.makeInterface _ _); exact zd rfl rfl) | (guard_target =~ gY (.pick _ _ _); first | exact zv rfl rfl | exact zu rfl rfl | exact zt rfl rfl rfl) | (guard_target =~ gY (.binOp .neq _ _ _ _); first | exact zj rfl rfl | exact zn rfl rfl | exact zm rfl rfl | exact zg rfl rfl | exact zh rfl rfl | exact zl rfl rfl | exact zf rfl rfl | exact zp rfl rfl | exact zk rfl rfl | exact zo rfl rfl | exact zi (by first | decide | assumption) rfl rfl) | (guard_target =~ gY (.binOp .eql _ _ _ _); first | exact yl rfl rfl | exact yp rfl rfl | exact yo rfl rfl | exact yi rfl rfl | exact yj rfl rfl | exact yn rfl rfl | exact yh rfl rfl | exact yr rfl rfl | exact ym rfl rfl | exact yq rfl rfl | exact yk (by first | decide | assumption) rfl rfl) | (guard_target =~ gY (.unOp .not _ _); exact zs rfl) | (guard_target =~ gY (.binOp .lss _ _ _ _); exact zc rfl rfl) | (guard_target =~ gY (.binOp .leq _ _ _ _); exact yz rfl rfl) | (guard_target =~ gY (.binOp .gtr _ _ _ _); exact yv rfl rfl) | (guard_target =~ gY (.binOp .geq _ _ _ _); exact yu rfl rfl) | (guard_target =~ gY (.binOp .add _ _ _ _); exact ya rfl rfl (by omega)) | (guard_target =~ gY (.binOp .sub _ _ _ _); exact zw rfl rfl (by omega)) | (guard_target =~ gY (.call _); first | exact yx rfl | exact yy rfl) | (guard_target =~ gY (.build _ _); exact yg rfl rfl) | (guard_target =~ gY (.indexAddr _ _ _); exact yw rfl rfl (by omega) (by omega))) ?_
          | refine WU.skip rfl rfl rfl ?_)
      | (guard_target =~ gW (.seq _ _); refine W.seq ?_)
      | (guard_target =~ gW (.region _ _ false); refine W.reg ?_)
      | (guard_target =~ gW (.cond _ _ _); first | refine W.cond_t rfl ?_ | refine W.cond_f rfl ?_)
      | (guard_target =~ gW (.block _ _); refine W.block ?_)
      | (guard_target =~ gW .skip; refine W.skip ?_)
      | (guard_target =~ gW (.exit _); refine W.exit ?_)
      | (guard_target =~ gW .ret; refine W.ret ?_)
      | (guard_target =~ gT .normal; refine thn_normal ?_)
      | (guard_target =~ gT (.exit _); refine thn_exit ?_)
      | (guard_target =~ gT .ret; refine thn_ret ?_)
      | (guard_target =~ gI .normal; refine inb_normal ?_)
      | (guard_target =~ gI (.exit _); first | refine inb_hit ?_ | refine inb_miss rfl ?_)
      | (guard_target =~ gI .ret; refine inb_ret ?_)))
  exact fin1 (.inl rfl) rfl rfl ⟨by simp [orig], hw.trans (x1.trans (x2.trans (x3.trans (x4.trans (x5.trans x6)))))⟩

set_option maxHeartbeats 20000000 in
theorem c_FnNumbers (n m : Int) (w : World) :
    Calls Tryz.prog 7 #[.int .i64 n, .int .i64 m] w (Ret fun r w' => r = .bool true ∧ Ext w w') := by
  refine W.enter (args := [.int .i64 n, .int .i64 m]) Tryz.func7 rfl Tryz.ntmps7 rfl rfl ?_
  (repeat (first
      | (guard_target =~ gU _; first
          | (guard_target =~ gU []; first | refine WU.nilk ?_ | refine WU.nil ?_)
          | refine WU.yld rfl rfl rfl (by first | (guard_target =~ gY (.move _); exact ze rfl) | (guard_target =~ gY (.assign _); exact yf rfl) | (guard_target =~ gY (.load _ _); first | exact za rfl rfl | exact zb rfl) | (guard_target =~ gY (.fieldAddr _ _ _); exact yt rfl) | (guard_target =~ gY (.nilCheck _); first | exact zq rfl | exact zr rfl) | (guard_target =~ gY (.extract _ _); exact ys rfl rfl) | (guard_target =~ gY (.typeAssert _ _ _ true); first | exact ye rfl rfl | exact yd rfl rfl (by first | rfl | assumption) | exact yc rfl rfl) | (guard_target =~ gY (.typeAssert _ _ _ false); exact yb rfl rfl) | (guard_target =~ gY (.makeInterface _ _); exact zd rfl rfl) | (guard_target =~ gY (.pick _ _ _); first | exact zv rfl rfl | exact zu rfl rfl | exact zt rfl rfl rfl) | (guard_target =~ gY (.binOp .neq _ _ _ _); first | exact zj rfl rfl | exact zn rfl rfl | exact zm rfl rfl | exact zg rfl rfl | exact zh rfl rfl | exact zl rfl rfl | exact zf rfl rfl | exact zp rfl rfl | exact zk rfl rfl | exact zo rfl rfl | exact zi (by first | decide | assumption) rfl rfl) | (guard_target =~ gY (.binOp .eql _ _ _ _); first | exact yl rfl rfl | exact yp rfl rfl | exact yo rfl rfl | exact yi rfl rfl | exact yj rfl rfl | exact yn rfl rfl | exact yh rfl rfl | exact yr rfl rfl | exact ym rfl rfl | exact yq rfl rfl | exact yk (by first | decide | assumption) rfl rfl) | (guard_target =~ gY (.unOp .not _ _); exact zs rfl) | (guard_target =~ gY (.binOp .lss _ _ _ _); exact zc rfl rfl) | (guard_target =~ gY (.binOp .leq _ _ _ _); exact yz rfl rfl) | (guard_target =~ gY (.binOp .gtr _ _ _ _); exact yv rfl rfl) | (guard_target =~ gY (.binOp .geq _ _ _ _); exact yu rfl rfl) | (guard_target =~ gY (.binOp .add _ _ _ _); exact ya rfl rfl (by omega)) | (guard_target =~ gY (.binOp .sub _ _ _ _); exact zw rfl rfl (by omega)) | (guard_target =~ gY (.call _); first | exact yx rfl | exact yy rfl) | (guard_target =~ gY (.build _ _); exact yg rfl rfl) | (guard_target =~ gY (.indexAddr _ _ _); exact yw rfl rfl (by omega) (by omega))) ?_
          | refine WU.skip rfl rfl rfl ?_)
      | (guard_target =~ gW (.seq _ _); refine W.seq ?_)
      | (guard_target =~ gW (.region _ _ false); refine W.reg ?_)
      | (guard_target =~ gW (.cond _ _ _); first | refine W.cond_t rfl ?_ | refine W.cond_f rfl ?_)
      | (guard_target =~ gW (.block _ _); refine W.block ?_)
      | (guard_target =~ gW .skip; refine W.skip ?_)
      | (guard_target =~ gW (.exit _); refine W.exit ?_)
      | (guard_target =~ gW .ret; refine W.ret ?_)
      | (guard_target =~ gT .normal; refine thn_normal ?_)
      | (guard_target =~ gT (.exit _); refine thn_exit ?_)
      | (guard_target =~ gT .ret; refine thn_ret ?_)
      | (guard_target =~ gI .normal; refine inb_normal ?_)
      | (guard_target =~ gI (.exit _); first | refine inb_hit ?_ | refine inb_miss rfl ?_)
      | (guard_target =~ gI .ret; refine inb_ret ?_)))
  refine WU.stp rfl rfl rfl (stp_call rfl (c_place n 20 w (by omega))) ?_
  rintro _ w2 ⟨rfl, rfl⟩
  (repeat (first
      | (guard_target =~ gU _; first
          | (guard_target =~ gU []; first | refine WU.nilk ?_ | refine WU.nil ?_)
          | refine WU.yld rfl rfl rfl (by first | (guard_target =~ gY (.move _); exact ze rfl) | (guard_target =~ gY (.assign _); exact yf rfl) | (guard_target =~ gY (.load _ _); first | exact za rfl rfl | exact zb rfl) | (guard_target =~ gY (.fieldAddr _ _ _); exact yt rfl) | (guard_target =~ gY (.nilCheck _); first | exact zq rfl | exact zr rfl) | (guard_target =~ gY (.extract _ _); exact ys rfl rfl) | (guard_target =~ gY (.typeAssert _ _ _ true); first | exact ye rfl rfl | exact yd rfl rfl (by first | rfl | assumption) | exact yc rfl rfl) | (guard_target =~ gY (.typeAssert _ _ _ false); exact yb rfl rfl) | (guard_target =~ gY (.makeInterface _ _); exact zd rfl rfl) | (guard_target =~ gY (.pick _ _ _); first | exact zv rfl rfl | exact zu rfl rfl | exact zt rfl rfl rfl) | (guard_target =~ gY (.binOp .neq _ _ _ _); first | exact zj rfl rfl | exact zn rfl rfl | exact zm rfl rfl | exact zg rfl rfl | exact zh rfl rfl | exact zl rfl rfl | exact zf rfl rfl | exact zp rfl rfl | exact zk rfl rfl | exact zo rfl rfl | exact zi (by first | decide | assumption) rfl rfl) | (guard_target =~ gY (.binOp .eql _ _ _ _); first | exact yl rfl rfl | exact yp rfl rfl | exact yo rfl rfl | exact yi rfl rfl | exact yj rfl rfl | exact yn rfl rfl | exact yh rfl rfl | exact yr rfl rfl | exact ym rfl rfl | exact yq rfl rfl | exact yk (by first | decide | assumption) rfl rfl) | (guard_target =~ gY (.unOp .not _ _); exact zs rfl) | (guard_target =~ gY (.binOp .lss _ _ _ _); exact zc rfl rfl) | (guard_target =~ gY (.binOp .leq _ _ _ _); exact yz rfl rfl) | (guard_target =~ gY (.binOp .gtr _ _ _ _); exact yv rfl rfl) | (guard_target =~ gY (.binOp .geq _ _ _ _); exact yu rfl rfl) | (guard_target =~ gY (.binOp .add _ _ _ _); exact ya rfl rfl (by omega)) | (guard_target =~ gY (.binOp .sub _ _ _ _); exact zw rfl rfl (by omega)) | (guard_target =~ gY (.call _); first | exact yx rfl | exact yy rfl) | (guard_target =~ gY (.build _ _); exact yg rfl rfl) | (guard_target =~ gY (.indexAddr _ _ _); exact yw rfl rfl (by omega) (by omega))) ?_
          | refine WU.skip rfl rfl rfl ?_)
      | (guard_target =~ gW (.seq _ _); refine W.seq ?_)
      | (guard_target =~ gW (.region _ _ false); refine W.reg ?_)
      | (guard_target =~ gW (.cond _ _ _); first | refine W.cond_t rfl ?_ | refine W.cond_f rfl ?_)
      | (guard_target =~ gW (.block _ _); refine W.block ?_)
      | (guard_target =~ gW .skip; refine W.skip ?_)
      | (guard_target =~ gW (.exit _); refine W.exit ?_)
      | (guard_target =~ gW .ret; refine W.ret ?_)
      | (guard_target =~ gT .normal; refine thn_normal ?_)
      | (guard_target =~ gT (.exit _); refine thn_exit ?_)
      | (guard_target =~ gT .ret; refine thn_ret ?_)
      | (guard_target =~ gI .normal; refine inb_normal ?_)
      | (guard_target =~ gI (.exit _); first | refine inb_hit ?_ | refine inb_miss rfl ?_)
      | (guard_target =~ gI .ret; refine inb_ret ?_)))
  refine WU.stp rfl rfl rfl (stp_call rfl (c_place m 20 w (by omega))) ?_
  rintro _ w2 ⟨rfl, rfl⟩
  have hX : 0 ≤ n % 20 ∧ n % 20 < 20 := by omega
  have hY : 0 ≤ m % 20 ∧ m % 20 < 20 := by omega
  generalize n % 20 = x at hX
  generalize m % 20 = y at hY
  have hkey := key x y hX hY
  have hasg := asgG_basic x y
  have hcx := cls_case x
  have hcy := cls_case y
  (repeat (first
      | (guard_target =~ gU _; first
          | (guard_target =~ gU []; first | refine WU.nilk ?_ | refine WU.nil ?_)
          | refine WU.yld rfl rfl rfl (by first | (guard_target =~ gY (.move _); exact ze rfl) | (guard_target =~ gY (.assign _); exact yf rfl) | (guard_target =~ gY (.load _ _); first | exact za rfl rfl | exact zb rfl) | (guard_target =~ gY (.fieldAddr _ _ _); exact yt rfl) | (guard_target =~ gY (.nilCheck _); first | exact zq rfl | exact zr rfl) | (guard_target =~ gY (.extract _ _); exact ys rfl rfl) | (guard_target =~ gY (.typeAssert _ _ _ true); first | exact ye rfl rfl | exact yd rfl rfl (by first | rfl | assumption) | exact yc rfl rfl) | (guard_target =~ gY (.typeAssert _ _ _ false); exact yb rfl rfl) | (guard_target =~ gY (.makeInterface _ _); exact zd rfl rfl) | (guard_target =~ gY (.pick _ _ _); first | exact zv rfl rfl | exact zu rfl rfl | exact zt rfl rfl rfl) | (guard_target =~ gY (.binOp .neq _ _ _ _); first | exact zj rfl rfl | exact zn rfl rfl | exact zm rfl rfl | exact zg rfl rfl | exact zh rfl rfl | exact zl rfl rfl | exact zf rfl rfl | exact zp rfl rfl | exact zk rfl rfl | exact zo rfl rfl | exact zi (by first | decide | assumption) rfl rfl) | (guard_target =~ gY (.binOp .eql _ _ _ _); first | exact yl rfl rfl | exact yp rfl rfl | exact yo rfl rfl | exact yi rfl rfl | exact yj rfl rfl | exact yn rfl rfl | exact yh rfl rfl | exact yr rfl rfl | exact ym rfl rfl | exact yq rfl rfl | exact yk (by first | decide | assumption) rfl rfl) | (guard_target =~ gY (.unOp .not _ _); exact zs rfl) | (guard_target =~ gY (.binOp .lss _ _ _ _); exact zc rfl rfl) | (guard_target =~ gY (.binOp .leq _ _ _ _); exact yz rfl rfl) | (guard_target =~ gY (.binOp .gtr _ _ _ _); exact yv rfl rfl) | (guard_target =~ gY (.binOp .geq _ _ _ _); exact yu rfl rfl) | (guard_target =~ gY (.binOp .add _ _ _ _); exact ya rfl rfl (by omega)) | (guard_target =~ gY (.binOp .sub _ _ _ _); exact zw rfl rfl (by omega)) | (guard_target =~ gY (.call _); first | exact yx rfl | exact yy rfl) | (guard_target =~ gY (.build _ _); exact yg rfl rfl) | (guard_target =~ gY (.indexAddr _ _ _); exact yw rfl rfl (by omega) (by omega))) ?_
          | refine WU.skip rfl rfl rfl ?_)
      | (guard_target =~ gW (.seq _ _); refine W.seq ?_)
      | (guard_target =~ gW (.region _ _ false); refine W.reg ?_)
      | (guard_target =~ gW (.cond _ _ _); first | refine W.cond_t rfl ?_ | refine W.cond_f rfl ?_)
      | (guard_target =~ gW (.block _ _); refine W.block ?_)
      | (guard_target =~ gW .skip; refine W.skip ?_)
      | (guard_target =~ gW (.exit _); refine W.exit ?_)
      | (guard_target =~ gW .ret; refine W.ret ?_)
      | (guard_target =~ gT .normal; refine thn_normal ?_)
      | (guard_target =~ gT (.exit _); refine thn_exit ?_)
      | (guard_target =~ gT .ret; refine thn_ret ?_)
      | (guard_target =~ gI .normal; refine inb_normal ?_)
      | (guard_target =~ gI (.exit _); first | refine inb_hit ?_ | refine inb_miss rfl ?_)
      | (guard_target =~ gI .ret; refine inb_ret ?_)))
  refine WU.stp rfl rfl rfl (stp_call rfl (c_class x w)) ?_
  rintro _ w2 ⟨rfl, rfl⟩
  (repeat (first
      | (guard_target =~ gU _; first
          | (guard_target =~ gU []; first | refine WU.nilk ?_ | refine WU.nil ?_)
          | refine WU.yld rfl rfl rfl (by first | (guard_target =~ gY (.move _); exact ze rfl) | (guard_target =~ gY (.assign _); exact yf rfl) | (guard_target =~ gY (.load _ _); first | exact za rfl rfl | exact zb rfl) | (guard_target =~ gY (.fieldAddr _ _ _); exact yt rfl) | (guard_target =~ gY (.nilCheck _); first | exact zq rfl | exact zr rfl) | (guard_target =~ gY (.extract _ _); exact ys rfl rfl) | (guard_target =~ gY (.typeAssert _ _ _ true); first | exact ye rfl rfl | exact yd rfl rfl (by first | rfl | assumption) | exact yc rfl rfl) | (guard_target =~ gY (.typeAssert _ _ _ false); exact yb rfl rfl) | (guard_target =~ gY (.makeInterface _ _); exact zd rfl rfl) | (guard_target =~ gY (.pick _ _ _); first | exact zv rfl rfl | exact zu rfl rfl | exact zt rfl rfl rfl) | (guard_target =~ gY (.binOp .neq _ _ _ _); first | exact zj rfl rfl | exact zn rfl rfl | exact zm rfl rfl | exact zg rfl rfl | exact zh rfl rfl | exact zl rfl rfl | exact zf rfl rfl | exact zp rfl rfl | exact zk rfl rfl | exact zo rfl rfl | exact zi (by first | decide | assumption) rfl rfl) | (guard_target =~ gY (.binOp .eql _ _ _ _); first | exact yl rfl rfl | exact yp rfl rfl | exact yo rfl rfl | exact yi rfl rfl | exact yj rfl rfl | exact yn rfl rfl | exact yh rfl rfl | exact yr rfl rfl | exact ym rfl rfl | exact yq rfl rfl | exact yk (by first | decide | assumption) rfl rfl) | (guard_target =~ gY (.unOp .not _ _); exact zs rfl) | (guard_target =~ gY (.binOp .lss _ _ _ _); exact zc rfl rfl) | (guard_target =~ gY (.binOp .leq _ _ _ _); exact yz rfl rfl) | (guard_target =~ gY (.binOp .gtr _ _ _ _); exact yv rfl rfl) | (guard_target =~ gY (.binOp .geq _ _ _ _); exact yu rfl rfl) | (guard_target =~ gY (.binOp .add _ _ _ _); exact ya rfl rfl (by omega)) | (guard_target =~ gY (.binOp .sub _ _ _ _); exact zw rfl rfl (by omega)) | (guard_target =~ gY (.call _); first | exact yx rfl | exact yy rfl) | (guard_target =~ gY (.build _ _); exact yg rfl rfl) | (guard_target =~ gY (.indexAddr _ _ _); exact yw rfl rfl (by omega) (by omega))) ?_
          | refine WU.skip rfl rfl rfl ?_)
      | (guard_target =~ gW (.seq _ _); refine W.seq ?_)
      | (guard_target =~ gW (.region _ _ false); refine W.reg ?_)
      | (guard_target =~ gW (.cond _ _ _); first | refine W.cond_t rfl ?_ | refine W.cond_f rfl ?_)
      | (guard_target =~ gW (.block _ _); refine W.block ?_)
      | (guard_target =~ gW .skip; refine W.skip ?_)
      | (guard_target =~ gW (.exit _); refine W.exit ?_)
      | (guard_target =~ gW .ret; refine W.ret ?_)
      | (guard_target =~ gT .normal; refine thn_normal ?_)
      | (guard_target =~ gT (.exit _); refine thn_exit ?_)
      | (guard_target =~ gT .ret; refine thn_ret ?_)
      | (guard_target =~ gI .normal; refine inb_normal ?_)
      | (guard_target =~ gI (.exit _); first | refine inb_hit ?_ | refine inb_miss rfl ?_)
      | (guard_target =~ gI .ret; refine inb_ret ?_)))
  refine WU.stp rfl rfl rfl (stp_call rfl (c_class y w)) ?_
  rintro _ w2 ⟨rfl, rfl⟩
  generalize cls (orig x) = a at hkey hcx
  generalize cls (orig y) = b at hkey hcy
  rcases hcx with ⟨rfl, hx⟩ | ⟨rfl, hx⟩ | ⟨rfl, hx⟩ | ⟨rfl, hx⟩ | ⟨rfl, hx⟩ | ⟨rfl, hx⟩ | ⟨rfl, hx⟩ <;> rcases hcy with ⟨rfl, hy⟩ | ⟨rfl, hy⟩ | ⟨rfl, hy⟩ | ⟨rfl, hy⟩ | ⟨rfl, hy⟩ | ⟨rfl, hy⟩ | ⟨rfl, hy⟩
  all_goals
    have hk2 : convG (PT.basic x).gt (PT.basic y).gt = _ := hkey
    unfold wantN at hk2
    rw [hx, hy] at hk2
    simp only [Int.reduceLE, decide_true, decide_false, Int.reduceBEq, Bool.true_and, Bool.false_and, Bool.and_true, Bool.and_false, Bool.or_true, Bool.true_or, Bool.or_false, Bool.false_or] at hk2
    clear hkey
    (repeat ((fail_if_success guard_target =~ gW (.seq (.region 4 _ _) _)); (fail_if_success guard_target =~ gW (.seq (.seq (.region 4 _ _) _) _)); first
        | (guard_target =~ gU _; first
            | (guard_target =~ gU []; first | refine WU.nilk ?_ | refine WU.nil ?_)
            | refine WU.yld rfl rfl rfl (by first | (guard_target =~ gY (.move _); exact ze rfl) | (guard_target =~ gY (.assign _); exact yf rfl) | (guard_target =~ gY (.load _ _); first | exact za rfl rfl | exact zb rfl) | (guard_target =~ gY (.fieldAddr _ _ _); exact yt rfl) | (guard_target =~ gY (.nilCheck _); first | exact zq rfl | exact zr rfl) | (guard_target =~ gY (.extract _ _); exact ys rfl rfl) | (guard_target =~ gY (.typeAssert _ _ _ true); first | exact ye rfl rfl | exact yd rfl rfl (by first | rfl | assumption) | exact yc rfl rfl) | (guard_target =~ gY (.typeAssert _ _ _ false); exact yb rfl rfl) | (guard_target =~ gY (.makeInterface _ _); exact zd rfl rfl) | (guard_target =~ gY (.pick _ _ _); first | exact zv rfl rfl | exact zu rfl rfl | exact zt rfl rfl rfl) | (guard_target =~ gY (.binOp .neq _ _ _ _); first | exact zj rfl rfl | exact zn rfl rfl | exact zm rfl rfl | exact zg rfl rfl | exact zh rfl rfl | exact zl rfl rfl | exact zf rfl rfl | exact zp rfl rfl | exact zk rfl rfl | exact zo rfl rfl | exact zi (by first | decide | assumption) rfl rfl) | (guard_target =~ gY (.binOp .eql _ _ _ _); first | exact yl rfl rfl | exact yp rfl rfl | exact yo rfl rfl | exact yi rfl rfl | exact yj rfl rfl | exact yn rfl rfl | exact yh rfl rfl | exact yr rfl rfl | exact ym rfl rfl | exact yq rfl rfl | exact yk (by first | decide | assumption) rfl rfl) | (guard_target =~ gY (.unOp .not _ _); exact zs rfl) | (guard_target =~ gY (.binOp .lss _ _ _ _); exact zc rfl rfl) | (guard_target =~ gY (.binOp .leq _ _ _ _); exact yz rfl rfl) | (guard_target =~ gY (.binOp .gtr _ _ _ _); exact yv rfl rfl) | (guard_target =~ gY (.binOp .geq _ _ _ _); exact yu rfl rfl) | (guard_target =~ gY (.binOp .add _ _ _ _); exact ya rfl rfl (by omega)) | (guard_target =~ gY (.binOp .sub _ _ _ _); exact zw rfl rfl (by omega)) | (guard_target =~ gY (.call _); first | exact yx rfl | exact yy rfl) | (guard_target =~ gY (.build _ _); exact yg rfl rfl) | (guard_target =~ gY (.indexAddr _ _ _); exact yw rfl rfl (by omega) (by omega))) ?_
            | refine WU.skip rfl rfl rfl ?_)
        | (guard_target =~ gW (.seq _ _); refine W.seq ?_)
        | (guard_target =~ gW (.region _ _ false); refine W.reg ?_)
        | (guard_target =~ gW (.cond _ _ _); first | refine W.cond_t rfl ?_ | refine W.cond_f rfl ?_)
        | (guard_target =~ gW (.block _ _); refine W.block ?_)
        | (guard_target =~ gW .skip; refine W.skip ?_)
        | (guard_target =~ gW (.exit _); refine W.exit ?_)
        | (guard_target =~ gW .ret; refine W.ret ?_)
        | (guard_target =~ gT .normal; refine thn_normal ?_)
        | (guard_target =~ gT (.exit _); refine thn_exit ?_)
        | (guard_target =~ gT .ret; refine thn_ret ?_)
        | (guard_target =~ gI .normal; refine inb_normal ?_)
        | (guard_target =~ gI (.exit _); first | refine inb_hit ?_ | refine inb_miss rfl ?_)
        | (guard_target =~ gI .ret; refine inb_ret ?_)))
    try rw [hx]
    (repeat ((fail_if_success guard_target =~ gW (.seq (.region 4 _ _) _)); (fail_if_success guard_target =~ gW (.seq (.seq (.region 4 _ _) _) _)); first
        | (guard_target =~ gU _; first
            | (guard_target =~ gU []; first | refine WU.nilk ?_ | refine WU.nil ?_)
            | refine WU.yld rfl rfl rfl (by first | (guard_target =~ gY (.move _); exact ze rfl) | (guard_target =~ gY (.assign _); exact yf rfl) | (guard_target =~ gY (.load _ _); first | exact za rfl rfl | exact zb rfl) | (guard_target =~ gY (.fieldAddr _ _ _); exact yt rfl) | (guard_target =~ gY (.nilCheck _); first | exact zq rfl | exact zr rfl) | (guard_target =~ gY (.extract _ _); exact ys rfl rfl) | (guard_target =~ gY (.typeAssert _ _ _ true); first | exact ye rfl rfl | exact yd rfl rfl (by first | rfl | assumption) | exact yc rfl rfl) | (guard_target =~ gY (.typeAssert _ _ _ false); exact yb rfl rfl) | (guard_target =~ gY (.makeInterface _ _); exact zd rfl rfl) | (guard_target =~ gY (.pick _ _ _); first | exact zv rfl rfl | exact zu rfl rfl | exact zt rfl rfl rfl) | (guard_target =~ gY (.binOp .neq _ _ _ _); first | exact zj rfl rfl | exact zn rfl rfl | exact zm rfl rfl | exact zg rfl rfl | exact zh rfl rfl | exact zl rfl rfl | exact zf rfl rfl | exact zp rfl rfl | exact zk rfl rfl | exact zo rfl rfl | exact zi (by first | decide | assumption) rfl rfl) | (guard_target =~ gY (.binOp .eql _ _ _ _); first | exact yl rfl rfl | exact yp rfl rfl | exact yo rfl rfl | exact yi rfl rfl | exact yj rfl rfl | exact yn rfl rfl | exact yh rfl rfl | exact yr rfl rfl | exact ym rfl rfl | exact yq rfl rfl | exact yk (by first | decide | assumption) rfl rfl) | (guard_target =~ gY (.unOp .not _ _); exact zs rfl) | (guard_target =~ gY (.binOp .lss _ _ _ _); exact zc rfl rfl) | (guard_target =~ gY (.binOp .leq _ _ _ _); exact yz rfl rfl) | (guard_target =~ gY (.binOp .gtr _ _ _ _); exact yv rfl rfl) | (guard_target =~ gY (.binOp .geq _ _ _ _); exact yu rfl rfl) | (guard_target =~ gY (.binOp .add _ _ _ _); exact ya rfl rfl (by omega)) | (guard_target =~ gY (.binOp .sub _ _ _ _); exact zw rfl rfl (by omega)) | (guard_target =~ gY (.call _); first | exact yx rfl | exact yy rfl) | (guard_target =~ gY (.build _ _); exact yg rfl rfl) | (guard_target =~ gY (.indexAddr _ _ _); exact yw rfl rfl (by omega) (by omega))) ?_
            | refine WU.skip rfl rfl rfl ?_)
        | (guard_target =~ gW (.seq _ _); refine W.seq ?_)
        | (guard_target =~ gW (.region _ _ false); refine W.reg ?_)
        | (guard_target =~ gW (.cond _ _ _); first | refine W.cond_t rfl ?_ | refine W.cond_f rfl ?_)
        | (guard_target =~ gW (.block _ _); refine W.block ?_)
        | (guard_target =~ gW .skip; refine W.skip ?_)
        | (guard_target =~ gW (.exit _); refine W.exit ?_)
        | (guard_target =~ gW .ret; refine W.ret ?_)
        | (guard_target =~ gT .normal; refine thn_normal ?_)
        | (guard_target =~ gT (.exit _); refine thn_exit ?_)
        | (guard_target =~ gT .ret; refine thn_ret ?_)
        | (guard_target =~ gI .normal; refine inb_normal ?_)
        | (guard_target =~ gI (.exit _); first | refine inb_hit ?_ | refine inb_miss rfl ?_)
        | (guard_target =~ gI .ret; refine inb_ret ?_)))
    try rw [hy]
    (repeat ((fail_if_success guard_target =~ gW (.seq (.region 4 _ _) _)); (fail_if_success guard_target =~ gW (.seq (.seq (.region 4 _ _) _) _)); first
        | (guard_target =~ gU _; first
            | (guard_target =~ gU []; first | refine WU.nilk ?_ | refine WU.nil ?_)
            | refine WU.yld rfl rfl rfl (by first | (guard_target =~ gY (.move _); exact ze rfl) | (guard_target =~ gY (.assign _); exact yf rfl) | (guard_target =~ gY (.load _ _); first | exact za rfl rfl | exact zb rfl) | (guard_target =~ gY (.fieldAddr _ _ _); exact yt rfl) | (guard_target =~ gY (.nilCheck _); first | exact zq rfl | exact zr rfl) | (guard_target =~ gY (.extract _ _); exact ys rfl rfl) | (guard_target =~ gY (.typeAssert _ _ _ true); first | exact ye rfl rfl | exact yd rfl rfl (by first | rfl | assumption) | exact yc rfl rfl) | (guard_target =~ gY (.typeAssert _ _ _ false); exact yb rfl rfl) | (guard_target =~ gY (.makeInterface _ _); exact zd rfl rfl) | (guard_target =~ gY (.pick _ _ _); first | exact zv rfl rfl | exact zu rfl rfl | exact zt rfl rfl rfl) | (guard_target =~ gY (.binOp .neq _ _ _ _); first | exact zj rfl rfl | exact zn rfl rfl | exact zm rfl rfl | exact zg rfl rfl | exact zh rfl rfl | exact zl rfl rfl | exact zf rfl rfl | exact zp rfl rfl | exact zk rfl rfl | exact zo rfl rfl | exact zi (by first | decide | assumption) rfl rfl) | (guard_target =~ gY (.binOp .eql _ _ _ _); first | exact yl rfl rfl | exact yp rfl rfl | exact yo rfl rfl | exact yi rfl rfl | exact yj rfl rfl | exact yn rfl rfl | exact yh rfl rfl | exact yr rfl rfl | exact ym rfl rfl | exact yq rfl rfl | exact yk (by first | decide | assumption) rfl rfl) | (guard_target =~ gY (.unOp .not _ _); exact zs rfl) | (guard_target =~ gY (.binOp .lss _ _ _ _); exact zc rfl rfl) | (guard_target =~ gY (.binOp .leq _ _ _ _); exact yz rfl rfl) | (guard_target =~ gY (.binOp .gtr _ _ _ _); exact yv rfl rfl) | (guard_target =~ gY (.binOp .geq _ _ _ _); exact yu rfl rfl) | (guard_target =~ gY (.binOp .add _ _ _ _); exact ya rfl rfl (by omega)) | (guard_target =~ gY (.binOp .sub _ _ _ _); exact zw rfl rfl (by omega)) | (guard_target =~ gY (.call _); first | exact yx rfl | exact yy rfl) | (guard_target =~ gY (.build _ _); exact yg rfl rfl) | (guard_target =~ gY (.indexAddr _ _ _); exact yw rfl rfl (by omega) (by omega))) ?_
            | refine WU.skip rfl rfl rfl ?_)
        | (guard_target =~ gW (.seq _ _); refine W.seq ?_)
        | (guard_target =~ gW (.region _ _ false); refine W.reg ?_)
        | (guard_target =~ gW (.cond _ _ _); first | refine W.cond_t rfl ?_ | refine W.cond_f rfl ?_)
        | (guard_target =~ gW (.block _ _); refine W.block ?_)
        | (guard_target =~ gW .skip; refine W.skip ?_)
        | (guard_target =~ gW (.exit _); refine W.exit ?_)
        | (guard_target =~ gW .ret; refine W.ret ?_)
        | (guard_target =~ gT .normal; refine thn_normal ?_)
        | (guard_target =~ gT (.exit _); refine thn_exit ?_)
        | (guard_target =~ gT .ret; refine thn_ret ?_)
        | (guard_target =~ gI .normal; refine inb_normal ?_)
        | (guard_target =~ gI (.exit _); first | refine inb_hit ?_ | refine inb_miss rfl ?_)
        | (guard_target =~ gI .ret; refine inb_ret ?_)))
    exact W.use (num4 hX hY hk2 (Ext.rfl' _)) rfl (by exact sub_of ⟨rfl, rfl, rfl, trivial⟩)
end Go.Proofs.YtnmodbmaokilaaaGreatDoor

/- The plain family, part 15: convertibleTo, over plain types, whole. -/
import Derived.Test.YtnmodbmaokilaaaGreatDoorPe
namespace Go.Proofs.YtnmodbmaokilaaaGreatDoor
open Go Go.Kd
set_option maxRecDepth 100000

set_option maxHeartbeats 4000000 in
theorem c_convertibleTo {x y : GT} {vx vy : Value} {bo : Nat} {w : World} (hx : Rep w vx x) (hy : Rep w vy y) (hO : opr w bo vx) :
    Calls Tryz.prog 42 #[.pointer (some ⟨bo, 0, none⟩), .pointer none, vy, .pointer none] w (Ret fun v w' => v = .bool (convG x y) ∧ Ext w w') := by
  obtain ⟨bx, rfl, _⟩ := hx.shape
  obtain ⟨b, rfl, _⟩ := hy.shape
  refine W.enter (args := [.pointer (some ⟨bo, 0, none⟩), .pointer none, (.iface (tagOf y) (.pointer (some ⟨b, 0, none⟩))), .pointer none]) Tryz.func42 rfl Tryz.ntmps42 rfl rfl ?_
  (repeat (first
      | (guard_target =~ gU _; first
          | (guard_target =~ gU []; first | refine WU.nilk ?_ | refine WU.nil ?_)
          | refine WU.yld rfl rfl rfl (by first | (guard_target =~ gY (.move _); exact ze rfl) | (guard_target =~ gY (.assign _); exact yf rfl) | (guard_target =~ gY (.load _ _); first | exact za rfl rfl | exact zb rfl) | (guard_target =~ gY (.fieldAddr _ _ _); exact yt rfl) | (guard_target =~ gY (.nilCheck _); first | exact zq rfl | exact zr rfl) | (guard_target =~ gY (.extract _ _); exact ys rfl rfl) | (guard_target =~ gY (.typeAssert _ _ _ true); first | exact ye rfl rfl | exact yd rfl rfl (by first | rfl | assumption) | exact yc rfl rfl) | (guard_target =~ gY (.typeAssert _ _ _ false); exact yb rfl rfl) | (guard_target =~ gY (.makeInterface _ _); exact zd rfl rfl) | (guard_target =~ gY (.pick _ _ _); first | exact zv rfl rfl | exact zu rfl rfl | exact zt rfl rfl rfl) | (guard_target =~ gY (.binOp .neq _ _ _ _); first | exact zj rfl rfl | exact zn rfl rfl | exact zm rfl rfl | exact zg rfl rfl | exact zh rfl rfl | exact zl rfl rfl | exact zf rfl rfl | exact zp rfl rfl | exact zk rfl rfl | exact zo rfl rfl | exact zi (by first | decide | assumption) rfl rfl) | (guard_target =~ gY (.binOp .eql _ _ _ _); first | exact yl rfl rfl | exact yp rfl rfl | exact yo rfl rfl | exact yi rfl rfl | exact yj rfl rfl | exact yn rfl rfl | exact yh rfl rfl | exact yr rfl rfl | exact ym rfl rfl | exact yq rfl rfl | exact yk (by first | decide | assumption) rfl rfl) | (guard_target =~ gY (.unOp .not _ _); exact zs rfl) | (guard_target =~ gY (.binOp .lss _ _ _ _); exact zc rfl rfl) | (guard_target =~ gY (.binOp .leq _ _ _ _); exact yz rfl rfl) | (guard_target =~ gY (.binOp .gtr _ _ _ _); exact yv rfl rfl) | (guard_target =~ gY (.binOp .geq _ _ _ _); exact yu rfl rfl) | (guard_target =~ gY (.binOp .add _ _ _ _); exact ya rfl rfl (by omega)) | (guard_target =~ gY (.binOp .sub _ _ _ _); exact zw rfl rfl (by omega)) | (guard_target =~ gY (.call _); first | exact yx rfl | exact yy rfl) | (guard_target =~ gY (.build _ _); exact yg rfl rfl) | (guard_target =~ gY (.indexAddr _ _ _); exact yw rfl rfl (by omega) (by omega))) ?_
          | refine WU.skip rfl rfl rfl ?_)
      | (guard_target =~ gW (.seq _ _); refine W.seq ?_)
      | (guard_target =~ gW (.region _ _ false); refine W.reg ?_)
      | (guard_target =~ gW (.cond _ _ _); first | refine W.cond_t rfl ?_ | refine W.cond_f rfl ?_)
      | (guard_target =~ gW (.block _ _); refine W.block ?_)
      | (guard_target =~ gW .skip; refine W.skip ?_)
      | (guard_target =~ gW (.exit _); refine W.exit ?_)
      | (guard_target =~ gW .ret; refine W.ret ?_)
      | (guard_target =~ gT .normal; refine thn_normal ?_)
      | (guard_target =~ gT (.exit _); refine thn_exit ?_)
      | (guard_target =~ gT .ret; refine thn_ret ?_)
      | (guard_target =~ gI .normal; refine inb_normal ?_)
      | (guard_target =~ gI (.exit _); first | refine inb_hit ?_ | refine inb_miss rfl ?_)
      | (guard_target =~ gI .ret; refine inb_ret ?_)))
  refine WU.stp rfl rfl rfl (by first | exact stp_box rfl rfl | exact stp_box1 rfl rfl) ?_
  rintro _ w1 ⟨b1, rfl, n1⟩
  refine WU.stp rfl rfl rfl (by first | exact stp_box rfl rfl | exact stp_box1 rfl rfl) ?_
  rintro _ w2 ⟨b2, rfl, n2⟩
  refine WU.stp rfl rfl rfl (by first | exact stp_box rfl rfl | exact stp_box1 rfl rfl) ?_
  rintro _ w3 ⟨b3, rfl, n3⟩
  refine WU.stp rfl rfl rfl (by first | exact stp_box rfl rfl | exact stp_box1 rfl rfl) ?_
  rintro _ w4 ⟨b4, rfl, n4⟩
  have xa : Ext w w4 := n1.ext.trans (n2.ext.trans (n3.ext.trans n4.ext))
  have hx4 := hx.ext xa
  have hy4 := hy.ext xa
  have hm1 := n1.num
  have hm2 := n2.num
  have hm3 := n3.num
  have hm4 := n4.num
  have hs1 := n1.size
  have hs2 := n2.size
  have hs3 := n3.size
  have hs4 := n4.size
  have ho := hO.ext' xa
  (repeat (first
      | (guard_target =~ gU _; first
          | (guard_target =~ gU []; first | refine WU.nilk ?_ | refine WU.nil ?_)
          | refine WU.yld rfl rfl rfl (by first | (guard_target =~ gY (.move _); exact ze rfl) | (guard_target =~ gY (.assign _); exact yf rfl) | (guard_target =~ gY (.load _ _); first | exact za rfl rfl | exact zb rfl) | (guard_target =~ gY (.fieldAddr _ _ _); exact yt rfl) | (guard_target =~ gY (.nilCheck _); first | exact zq rfl | exact zr rfl) | (guard_target =~ gY (.extract _ _); exact ys rfl rfl) | (guard_target =~ gY (.typeAssert _ _ _ true); first | exact ye rfl rfl | exact yd rfl rfl (by first | rfl | assumption) | exact yc rfl rfl) | (guard_target =~ gY (.typeAssert _ _ _ false); exact yb rfl rfl) | (guard_target =~ gY (.makeInterface _ _); exact zd rfl rfl) | (guard_target =~ gY (.pick _ _ _); first | exact zv rfl rfl | exact zu rfl rfl | exact zt rfl rfl rfl) | (guard_target =~ gY (.binOp .neq _ _ _ _); first | exact zj rfl rfl | exact zn rfl rfl | exact zm rfl rfl | exact zg rfl rfl | exact zh rfl rfl | exact zl rfl rfl | exact zf rfl rfl | exact zp rfl rfl | exact zk rfl rfl | exact zo rfl rfl | exact zi (by first | decide | assumption) rfl rfl) | (guard_target =~ gY (.binOp .eql _ _ _ _); first | exact yl rfl rfl | exact yp rfl rfl | exact yo rfl rfl | exact yi rfl rfl | exact yj rfl rfl | exact yn rfl rfl | exact yh rfl rfl | exact yr rfl rfl | exact ym rfl rfl | exact yq rfl rfl | exact yk (by first | decide | assumption) rfl rfl) | (guard_target =~ gY (.unOp .not _ _); exact zs rfl) | (guard_target =~ gY (.binOp .lss _ _ _ _); exact zc rfl rfl) | (guard_target =~ gY (.binOp .leq _ _ _ _); exact yz rfl rfl) | (guard_target =~ gY (.binOp .gtr _ _ _ _); exact yv rfl rfl) | (guard_target =~ gY (.binOp .geq _ _ _ _); exact yu rfl rfl) | (guard_target =~ gY (.binOp .add _ _ _ _); exact ya rfl rfl (by omega)) | (guard_target =~ gY (.binOp .sub _ _ _ _); exact zw rfl rfl (by omega)) | (guard_target =~ gY (.call _); first | exact yx rfl | exact yy rfl) | (guard_target =~ gY (.build _ _); exact yg rfl rfl) | (guard_target =~ gY (.indexAddr _ _ _); exact yw rfl rfl (by omega) (by omega))) ?_
          | refine WU.skip rfl rfl rfl ?_)
      | (guard_target =~ gW (.seq _ _); refine W.seq ?_)
      | (guard_target =~ gW (.region _ _ false); refine W.reg ?_)
      | (guard_target =~ gW (.cond _ _ _); first | refine W.cond_t rfl ?_ | refine W.cond_f rfl ?_)
      | (guard_target =~ gW (.block _ _); refine W.block ?_)
      | (guard_target =~ gW .skip; refine W.skip ?_)
      | (guard_target =~ gW (.exit _); refine W.exit ?_)
      | (guard_target =~ gW .ret; refine W.ret ?_)
      | (guard_target =~ gT .normal; refine thn_normal ?_)
      | (guard_target =~ gT (.exit _); refine thn_exit ?_)
      | (guard_target =~ gT .ret; refine thn_ret ?_)
      | (guard_target =~ gI .normal; refine inb_normal ?_)
      | (guard_target =~ gI (.exit _); first | refine inb_hit ?_ | refine inb_miss rfl ?_)
      | (guard_target =~ gI .ret; refine inb_ret ?_)))
  refine WU.stp rfl rfl rfl (stp_call rfl (c_assignableTo hx4 hy4 ho)) ?_
  rintro _ w5 ⟨⟨cd, rfl⟩, x5⟩
  have s5 := x5.size
  have i1 : Has w5 b1 _ := (inferInstance : Has w4 b1 _).ext' x5
  have i2 : Has w5 b2 _ := (inferInstance : Has w4 b2 _).ext' x5
  have i3 : Has w5 b3 _ := (inferInstance : Has w4 b3 _).ext' x5
  cases hasg : asgG x y
  · have hne : ¬ x = y := fun h => by simp [asgG, h] at hasg
    rw [show convG x y = restG x y by simp [convG, hasg]]
    have itx := (noT x).tp
    have ity := (noT y).tp
    have xb := xa.trans x5
    (repeat (first
        | (guard_target =~ gU _; first
            | (guard_target =~ gU []; first | refine WU.nilk ?_ | refine WU.nil ?_)
            | refine WU.yld rfl rfl rfl (by first | (guard_target =~ gY (.move _); exact ze rfl) | (guard_target =~ gY (.assign _); exact yf rfl) | (guard_target =~ gY (.load _ _); first | exact za rfl rfl | exact zb rfl) | (guard_target =~ gY (.fieldAddr _ _ _); exact yt rfl) | (guard_target =~ gY (.nilCheck _); first | exact zq rfl | exact zr rfl) | (guard_target =~ gY (.extract _ _); exact ys rfl rfl) | (guard_target =~ gY (.typeAssert _ _ _ true); first | exact ye rfl rfl | exact yd rfl rfl (by first | rfl | assumption) | exact yc rfl rfl) | (guard_target =~ gY (.typeAssert _ _ _ false); exact yb rfl rfl) | (guard_target =~ gY (.makeInterface _ _); exact zd rfl rfl) | (guard_target =~ gY (.pick _ _ _); first | exact zv rfl rfl | exact zu rfl rfl | exact zt rfl rfl rfl) | (guard_target =~ gY (.binOp .neq _ _ _ _); first | exact zj rfl rfl | exact zn rfl rfl | exact zm rfl rfl | exact zg rfl rfl | exact zh rfl rfl | exact zl rfl rfl | exact zf rfl rfl | exact zp rfl rfl | exact zk rfl rfl | exact zo rfl rfl | exact zi (by first | decide | assumption) rfl rfl) | (guard_target =~ gY (.binOp .eql _ _ _ _); first | exact yl rfl rfl | exact yp rfl rfl | exact yo rfl rfl | exact yi rfl rfl | exact yj rfl rfl | exact yn rfl rfl | exact yh rfl rfl | exact yr rfl rfl | exact ym rfl rfl | exact yq rfl rfl | exact yk (by first | decide | assumption) rfl rfl) | (guard_target =~ gY (.unOp .not _ _); exact zs rfl) | (guard_target =~ gY (.binOp .lss _ _ _ _); exact zc rfl rfl) | (guard_target =~ gY (.binOp .leq _ _ _ _); exact yz rfl rfl) | (guard_target =~ gY (.binOp .gtr _ _ _ _); exact yv rfl rfl) | (guard_target =~ gY (.binOp .geq _ _ _ _); exact yu rfl rfl) | (guard_target =~ gY (.binOp .add _ _ _ _); exact ya rfl rfl (by omega)) | (guard_target =~ gY (.binOp .sub _ _ _ _); exact zw rfl rfl (by omega)) | (guard_target =~ gY (.call _); first | exact yx rfl | exact yy rfl) | (guard_target =~ gY (.build _ _); exact yg rfl rfl) | (guard_target =~ gY (.indexAddr _ _ _); exact yw rfl rfl (by omega) (by omega))) ?_
            | refine WU.skip rfl rfl rfl ?_)
        | (guard_target =~ gW (.seq _ _); refine W.seq ?_)
        | (guard_target =~ gW (.region _ _ false); refine W.reg ?_)
        | (guard_target =~ gW (.cond _ _ _); first | refine W.cond_t rfl ?_ | refine W.cond_f rfl ?_)
        | (guard_target =~ gW (.block _ _); refine W.block ?_)
        | (guard_target =~ gW .skip; refine W.skip ?_)
        | (guard_target =~ gW (.exit _); refine W.exit ?_)
        | (guard_target =~ gW .ret; refine W.ret ?_)
        | (guard_target =~ gT .normal; refine thn_normal ?_)
        | (guard_target =~ gT (.exit _); refine thn_exit ?_)
        | (guard_target =~ gT .ret; refine thn_ret ?_)
        | (guard_target =~ gI .normal; refine inb_normal ?_)
        | (guard_target =~ gI (.exit _); first | refine inb_hit ?_ | refine inb_miss rfl ?_)
        | (guard_target =~ gI .ret; refine inb_ret ?_)))
    refine WU.stp rfl rfl rfl (stp_call rfl (c_optyp (hO.ext' xb))) ?_
    rintro _ w6 ⟨rfl, rfl⟩
    refine WU.stp rfl rfl rfl (stp_call rfl (c_Unalias _ _ w5 (noT x).al)) ?_
    rintro _ w6 ⟨rfl, rfl⟩
    (repeat (first
        | (guard_target =~ gU _; first
            | (guard_target =~ gU []; first | refine WU.nilk ?_ | refine WU.nil ?_)
            | refine WU.yld rfl rfl rfl (by first | (guard_target =~ gY (.move _); exact ze rfl) | (guard_target =~ gY (.assign _); exact yf rfl) | (guard_target =~ gY (.load _ _); first | exact za rfl rfl | exact zb rfl) | (guard_target =~ gY (.fieldAddr _ _ _); exact yt rfl) | (guard_target =~ gY (.nilCheck _); first | exact zq rfl | exact zr rfl) | (guard_target =~ gY (.extract _ _); exact ys rfl rfl) | (guard_target =~ gY (.typeAssert _ _ _ true); first | exact ye rfl rfl | exact yd rfl rfl (by first | rfl | assumption) | exact yc rfl rfl) | (guard_target =~ gY (.typeAssert _ _ _ false); exact yb rfl rfl) | (guard_target =~ gY (.makeInterface _ _); exact zd rfl rfl) | (guard_target =~ gY (.pick _ _ _); first | exact zv rfl rfl | exact zu rfl rfl | exact zt rfl rfl rfl) | (guard_target =~ gY (.binOp .neq _ _ _ _); first | exact zj rfl rfl | exact zn rfl rfl | exact zm rfl rfl | exact zg rfl rfl | exact zh rfl rfl | exact zl rfl rfl | exact zf rfl rfl | exact zp rfl rfl | exact zk rfl rfl | exact zo rfl rfl | exact zi (by first | decide | assumption) rfl rfl) | (guard_target =~ gY (.binOp .eql _ _ _ _); first | exact yl rfl rfl | exact yp rfl rfl | exact yo rfl rfl | exact yi rfl rfl | exact yj rfl rfl | exact yn rfl rfl | exact yh rfl rfl | exact yr rfl rfl | exact ym rfl rfl | exact yq rfl rfl | exact yk (by first | decide | assumption) rfl rfl) | (guard_target =~ gY (.unOp .not _ _); exact zs rfl) | (guard_target =~ gY (.binOp .lss _ _ _ _); exact zc rfl rfl) | (guard_target =~ gY (.binOp .leq _ _ _ _); exact yz rfl rfl) | (guard_target =~ gY (.binOp .gtr _ _ _ _); exact yv rfl rfl) | (guard_target =~ gY (.binOp .geq _ _ _ _); exact yu rfl rfl) | (guard_target =~ gY (.binOp .add _ _ _ _); exact ya rfl rfl (by omega)) | (guard_target =~ gY (.binOp .sub _ _ _ _); exact zw rfl rfl (by omega)) | (guard_target =~ gY (.call _); first | exact yx rfl | exact yy rfl) | (guard_target =~ gY (.build _ _); exact yg rfl rfl) | (guard_target =~ gY (.indexAddr _ _ _); exact yw rfl rfl (by omega) (by omega))) ?_
            | refine WU.skip rfl rfl rfl ?_)
        | (guard_target =~ gW (.seq _ _); refine W.seq ?_)
        | (guard_target =~ gW (.region _ _ false); refine W.reg ?_)
        | (guard_target =~ gW (.cond _ _ _); first | refine W.cond_t rfl ?_ | refine W.cond_f rfl ?_)
        | (guard_target =~ gW (.block _ _); refine W.block ?_)
        | (guard_target =~ gW .skip; refine W.skip ?_)
        | (guard_target =~ gW (.exit _); refine W.exit ?_)
        | (guard_target =~ gW .ret; refine W.ret ?_)
        | (guard_target =~ gT .normal; refine thn_normal ?_)
        | (guard_target =~ gT (.exit _); refine thn_exit ?_)
        | (guard_target =~ gT .ret; refine thn_ret ?_)
        | (guard_target =~ gI .normal; refine inb_normal ?_)
        | (guard_target =~ gI (.exit _); first | refine inb_hit ?_ | refine inb_miss rfl ?_)
        | (guard_target =~ gI .ret; refine inb_ret ?_)))
    refine WU.stp rfl rfl rfl (stp_call rfl (c_Unalias _ _ w5 (noT y).al)) ?_
    rintro _ w6 ⟨rfl, rfl⟩
    refine WU.stp0 rfl rfl (stp_store_cell rfl rfl rfl rfl) ?_
    rintro _ w6 u6
    have xc : Ext w w6 := u6.ext xb (by omega)
    have j2 : Has w6 b2 _ := u6.keep i2 (by omega)
    have j3 : Has w6 b3 _ := u6.has
    have hx6 := hx.ext xc
    have hy6 := hy.ext xc
    have s6 := u6.size
    (repeat (first
        | (guard_target =~ gU _; first
            | (guard_target =~ gU []; first | refine WU.nilk ?_ | refine WU.nil ?_)
            | refine WU.yld rfl rfl rfl (by first | (guard_target =~ gY (.move _); exact ze rfl) | (guard_target =~ gY (.assign _); exact yf rfl) | (guard_target =~ gY (.load _ _); first | exact za rfl rfl | exact zb rfl) | (guard_target =~ gY (.fieldAddr _ _ _); exact yt rfl) | (guard_target =~ gY (.nilCheck _); first | exact zq rfl | exact zr rfl) | (guard_target =~ gY (.extract _ _); exact ys rfl rfl) | (guard_target =~ gY (.typeAssert _ _ _ true); first | exact ye rfl rfl | exact yd rfl rfl (by first | rfl | assumption) | exact yc rfl rfl) | (guard_target =~ gY (.typeAssert _ _ _ false); exact yb rfl rfl) | (guard_target =~ gY (.makeInterface _ _); exact zd rfl rfl) | (guard_target =~ gY (.pick _ _ _); first | exact zv rfl rfl | exact zu rfl rfl | exact zt rfl rfl rfl) | (guard_target =~ gY (.binOp .neq _ _ _ _); first | exact zj rfl rfl | exact zn rfl rfl | exact zm rfl rfl | exact zg rfl rfl | exact zh rfl rfl | exact zl rfl rfl | exact zf rfl rfl | exact zp rfl rfl | exact zk rfl rfl | exact zo rfl rfl | exact zi (by first | decide | assumption) rfl rfl) | (guard_target =~ gY (.binOp .eql _ _ _ _); first | exact yl rfl rfl | exact yp rfl rfl | exact yo rfl rfl | exact yi rfl rfl | exact yj rfl rfl | exact yn rfl rfl | exact yh rfl rfl | exact yr rfl rfl | exact ym rfl rfl | exact yq rfl rfl | exact yk (by first | decide | assumption) rfl rfl) | (guard_target =~ gY (.unOp .not _ _); exact zs rfl) | (guard_target =~ gY (.binOp .lss _ _ _ _); exact zc rfl rfl) | (guard_target =~ gY (.binOp .leq _ _ _ _); exact yz rfl rfl) | (guard_target =~ gY (.binOp .gtr _ _ _ _); exact yv rfl rfl) | (guard_target =~ gY (.binOp .geq _ _ _ _); exact yu rfl rfl) | (guard_target =~ gY (.binOp .add _ _ _ _); exact ya rfl rfl (by omega)) | (guard_target =~ gY (.binOp .sub _ _ _ _); exact zw rfl rfl (by omega)) | (guard_target =~ gY (.call _); first | exact yx rfl | exact yy rfl) | (guard_target =~ gY (.build _ _); exact yg rfl rfl) | (guard_target =~ gY (.indexAddr _ _ _); exact yw rfl rfl (by omega) (by omega))) ?_
            | refine WU.skip rfl rfl rfl ?_)
        | (guard_target =~ gW (.seq _ _); refine W.seq ?_)
        | (guard_target =~ gW (.region _ _ false); refine W.reg ?_)
        | (guard_target =~ gW (.cond _ _ _); first | refine W.cond_t rfl ?_ | refine W.cond_f rfl ?_)
        | (guard_target =~ gW (.block _ _); refine W.block ?_)
        | (guard_target =~ gW .skip; refine W.skip ?_)
        | (guard_target =~ gW (.exit _); refine W.exit ?_)
        | (guard_target =~ gW .ret; refine W.ret ?_)
        | (guard_target =~ gT .normal; refine thn_normal ?_)
        | (guard_target =~ gT (.exit _); refine thn_exit ?_)
        | (guard_target =~ gT .ret; refine thn_ret ?_)
        | (guard_target =~ gI .normal; refine inb_normal ?_)
        | (guard_target =~ gI (.exit _); first | refine inb_hit ?_ | refine inb_miss rfl ?_)
        | (guard_target =~ gI .ret; refine inb_ret ?_)))
    refine WU.stp rfl rfl rfl (stp_und hx6 rfl) ?_
    rintro _ w7 ⟨rfl, rfl⟩
    (repeat (first
        | (guard_target =~ gU _; first
            | (guard_target =~ gU []; first | refine WU.nilk ?_ | refine WU.nil ?_)
            | refine WU.yld rfl rfl rfl (by first | (guard_target =~ gY (.move _); exact ze rfl) | (guard_target =~ gY (.assign _); exact yf rfl) | (guard_target =~ gY (.load _ _); first | exact za rfl rfl | exact zb rfl) | (guard_target =~ gY (.fieldAddr _ _ _); exact yt rfl) | (guard_target =~ gY (.nilCheck _); first | exact zq rfl | exact zr rfl) | (guard_target =~ gY (.extract _ _); exact ys rfl rfl) | (guard_target =~ gY (.typeAssert _ _ _ true); first | exact ye rfl rfl | exact yd rfl rfl (by first | rfl | assumption) | exact yc rfl rfl) | (guard_target =~ gY (.typeAssert _ _ _ false); exact yb rfl rfl) | (guard_target =~ gY (.makeInterface _ _); exact zd rfl rfl) | (guard_target =~ gY (.pick _ _ _); first | exact zv rfl rfl | exact zu rfl rfl | exact zt rfl rfl rfl) | (guard_target =~ gY (.binOp .neq _ _ _ _); first | exact zj rfl rfl | exact zn rfl rfl | exact zm rfl rfl | exact zg rfl rfl | exact zh rfl rfl | exact zl rfl rfl | exact zf rfl rfl | exact zp rfl rfl | exact zk rfl rfl | exact zo rfl rfl | exact zi (by first | decide | assumption) rfl rfl) | (guard_target =~ gY (.binOp .eql _ _ _ _); first | exact yl rfl rfl | exact yp rfl rfl | exact yo rfl rfl | exact yi rfl rfl | exact yj rfl rfl | exact yn rfl rfl | exact yh rfl rfl | exact yr rfl rfl | exact ym rfl rfl | exact yq rfl rfl | exact yk (by first | decide | assumption) rfl rfl) | (guard_target =~ gY (.unOp .not _ _); exact zs rfl) | (guard_target =~ gY (.binOp .lss _ _ _ _); exact zc rfl rfl) | (guard_target =~ gY (.binOp .leq _ _ _ _); exact yz rfl rfl) | (guard_target =~ gY (.binOp .gtr _ _ _ _); exact yv rfl rfl) | (guard_target =~ gY (.binOp .geq _ _ _ _); exact yu rfl rfl) | (guard_target =~ gY (.binOp .add _ _ _ _); exact ya rfl rfl (by omega)) | (guard_target =~ gY (.binOp .sub _ _ _ _); exact zw rfl rfl (by omega)) | (guard_target =~ gY (.call _); first | exact yx rfl | exact yy rfl) | (guard_target =~ gY (.build _ _); exact yg rfl rfl) | (guard_target =~ gY (.indexAddr _ _ _); exact yw rfl rfl (by omega) (by omega))) ?_
            | refine WU.skip rfl rfl rfl ?_)
        | (guard_target =~ gW (.seq _ _); refine W.seq ?_)
        | (guard_target =~ gW (.region _ _ false); refine W.reg ?_)
        | (guard_target =~ gW (.cond _ _ _); first | refine W.cond_t rfl ?_ | refine W.cond_f rfl ?_)
        | (guard_target =~ gW (.block _ _); refine W.block ?_)
        | (guard_target =~ gW .skip; refine W.skip ?_)
        | (guard_target =~ gW (.exit _); refine W.exit ?_)
        | (guard_target =~ gW .ret; refine W.ret ?_)
        | (guard_target =~ gT .normal; refine thn_normal ?_)
        | (guard_target =~ gT (.exit _); refine thn_exit ?_)
        | (guard_target =~ gT .ret; refine thn_ret ?_)
        | (guard_target =~ gI .normal; refine inb_normal ?_)
        | (guard_target =~ gI (.exit _); first | refine inb_hit ?_ | refine inb_miss rfl ?_)
        | (guard_target =~ gI .ret; refine inb_ret ?_)))
    refine WU.stp rfl rfl rfl (stp_und hy6 rfl) ?_
    rintro _ w7 ⟨rfl, rfl⟩
    (repeat (first
        | (guard_target =~ gU _; first
            | (guard_target =~ gU []; first | refine WU.nilk ?_ | refine WU.nil ?_)
            | refine WU.yld rfl rfl rfl (by first | (guard_target =~ gY (.move _); exact ze rfl) | (guard_target =~ gY (.assign _); exact yf rfl) | (guard_target =~ gY (.load _ _); first | exact za rfl rfl | exact zb rfl) | (guard_target =~ gY (.fieldAddr _ _ _); exact yt rfl) | (guard_target =~ gY (.nilCheck _); first | exact zq rfl | exact zr rfl) | (guard_target =~ gY (.extract _ _); exact ys rfl rfl) | (guard_target =~ gY (.typeAssert _ _ _ true); first | exact ye rfl rfl | exact yd rfl rfl (by first | rfl | assumption) | exact yc rfl rfl) | (guard_target =~ gY (.typeAssert _ _ _ false); exact yb rfl rfl) | (guard_target =~ gY (.makeInterface _ _); exact zd rfl rfl) | (guard_target =~ gY (.pick _ _ _); first | exact zv rfl rfl | exact zu rfl rfl | exact zt rfl rfl rfl) | (guard_target =~ gY (.binOp .neq _ _ _ _); first | exact zj rfl rfl | exact zn rfl rfl | exact zm rfl rfl | exact zg rfl rfl | exact zh rfl rfl | exact zl rfl rfl | exact zf rfl rfl | exact zp rfl rfl | exact zk rfl rfl | exact zo rfl rfl | exact zi (by first | decide | assumption) rfl rfl) | (guard_target =~ gY (.binOp .eql _ _ _ _); first | exact yl rfl rfl | exact yp rfl rfl | exact yo rfl rfl | exact yi rfl rfl | exact yj rfl rfl | exact yn rfl rfl | exact yh rfl rfl | exact yr rfl rfl | exact ym rfl rfl | exact yq rfl rfl | exact yk (by first | decide | assumption) rfl rfl) | (guard_target =~ gY (.unOp .not _ _); exact zs rfl) | (guard_target =~ gY (.binOp .lss _ _ _ _); exact zc rfl rfl) | (guard_target =~ gY (.binOp .leq _ _ _ _); exact yz rfl rfl) | (guard_target =~ gY (.binOp .gtr _ _ _ _); exact yv rfl rfl) | (guard_target =~ gY (.binOp .geq _ _ _ _); exact yu rfl rfl) | (guard_target =~ gY (.binOp .add _ _ _ _); exact ya rfl rfl (by omega)) | (guard_target =~ gY (.binOp .sub _ _ _ _); exact zw rfl rfl (by omega)) | (guard_target =~ gY (.call _); first | exact yx rfl | exact yy rfl) | (guard_target =~ gY (.build _ _); exact yg rfl rfl) | (guard_target =~ gY (.indexAddr _ _ _); exact yw rfl rfl (by omega) (by omega))) ?_
            | refine WU.skip rfl rfl rfl ?_)
        | (guard_target =~ gW (.seq _ _); refine W.seq ?_)
        | (guard_target =~ gW (.region _ _ false); refine W.reg ?_)
        | (guard_target =~ gW (.cond _ _ _); first | refine W.cond_t rfl ?_ | refine W.cond_f rfl ?_)
        | (guard_target =~ gW (.block _ _); refine W.block ?_)
        | (guard_target =~ gW .skip; refine W.skip ?_)
        | (guard_target =~ gW (.exit _); refine W.exit ?_)
        | (guard_target =~ gW .ret; refine W.ret ?_)
        | (guard_target =~ gT .normal; refine thn_normal ?_)
        | (guard_target =~ gT (.exit _); refine thn_exit ?_)
        | (guard_target =~ gT .ret; refine thn_ret ?_)
        | (guard_target =~ gI .normal; refine inb_normal ?_)
        | (guard_target =~ gI (.exit _); first | refine inb_hit ?_ | refine inb_miss rfl ?_)
        | (guard_target =~ gI .ret; refine inb_ret ?_)))
    refine WU.stp rfl rfl rfl stp_alloc ?_
    rintro _ w7 ⟨b7, rfl, n7⟩
    refine WU.stp0 rfl rfl (stp_store_cell rfl rfl rfl rfl) ?_
    rintro _ w8 u8
    have n8 := u8.ofNew n7
    have xd := xc.trans n8.ext
    (repeat (first
        | (guard_target =~ gU _; first
            | (guard_target =~ gU []; first | refine WU.nilk ?_ | refine WU.nil ?_)
            | refine WU.yld rfl rfl rfl (by first | (guard_target =~ gY (.move _); exact ze rfl) | (guard_target =~ gY (.assign _); exact yf rfl) | (guard_target =~ gY (.load _ _); first | exact za rfl rfl | exact zb rfl) | (guard_target =~ gY (.fieldAddr _ _ _); exact yt rfl) | (guard_target =~ gY (.nilCheck _); first | exact zq rfl | exact zr rfl) | (guard_target =~ gY (.extract _ _); exact ys rfl rfl) | (guard_target =~ gY (.typeAssert _ _ _ true); first | exact ye rfl rfl | exact yd rfl rfl (by first | rfl | assumption) | exact yc rfl rfl) | (guard_target =~ gY (.typeAssert _ _ _ false); exact yb rfl rfl) | (guard_target =~ gY (.makeInterface _ _); exact zd rfl rfl) | (guard_target =~ gY (.pick _ _ _); first | exact zv rfl rfl | exact zu rfl rfl | exact zt rfl rfl rfl) | (guard_target =~ gY (.binOp .neq _ _ _ _); first | exact zj rfl rfl | exact zn rfl rfl | exact zm rfl rfl | exact zg rfl rfl | exact zh rfl rfl | exact zl rfl rfl | exact zf rfl rfl | exact zp rfl rfl | exact zk rfl rfl | exact zo rfl rfl | exact zi (by first | decide | assumption) rfl rfl) | (guard_target =~ gY (.binOp .eql _ _ _ _); first | exact yl rfl rfl | exact yp rfl rfl | exact yo rfl rfl | exact yi rfl rfl | exact yj rfl rfl | exact yn rfl rfl | exact yh rfl rfl | exact yr rfl rfl | exact ym rfl rfl | exact yq rfl rfl | exact yk (by first | decide | assumption) rfl rfl) | (guard_target =~ gY (.unOp .not _ _); exact zs rfl) | (guard_target =~ gY (.binOp .lss _ _ _ _); exact zc rfl rfl) | (guard_target =~ gY (.binOp .leq _ _ _ _); exact yz rfl rfl) | (guard_target =~ gY (.binOp .gtr _ _ _ _); exact yv rfl rfl) | (guard_target =~ gY (.binOp .geq _ _ _ _); exact yu rfl rfl) | (guard_target =~ gY (.binOp .add _ _ _ _); exact ya rfl rfl (by omega)) | (guard_target =~ gY (.binOp .sub _ _ _ _); exact zw rfl rfl (by omega)) | (guard_target =~ gY (.call _); first | exact yx rfl | exact yy rfl) | (guard_target =~ gY (.build _ _); exact yg rfl rfl) | (guard_target =~ gY (.indexAddr _ _ _); exact yw rfl rfl (by omega) (by omega))) ?_
            | refine WU.skip rfl rfl rfl ?_)
        | (guard_target =~ gW (.seq _ _); refine W.seq ?_)
        | (guard_target =~ gW (.region _ _ false); refine W.reg ?_)
        | (guard_target =~ gW (.cond _ _ _); first | refine W.cond_t rfl ?_ | refine W.cond_f rfl ?_)
        | (guard_target =~ gW (.block _ _); refine W.block ?_)
        | (guard_target =~ gW .skip; refine W.skip ?_)
        | (guard_target =~ gW (.exit _); refine W.exit ?_)
        | (guard_target =~ gW .ret; refine W.ret ?_)
        | (guard_target =~ gT .normal; refine thn_normal ?_)
        | (guard_target =~ gT (.exit _); refine thn_exit ?_)
        | (guard_target =~ gT .ret; refine thn_ret ?_)
        | (guard_target =~ gI .normal; refine inb_normal ?_)
        | (guard_target =~ gI (.exit _); first | refine inb_hit ?_ | refine inb_miss rfl ?_)
        | (guard_target =~ gI .ret; refine inb_ret ?_)))
    refine WU.stp rfl rfl rfl (stp_call rfl (c_IdenticalIgnoreTags (hx.ext xd) (hy.ext xd))) ?_
    rintro _ w9 ⟨rfl, x9⟩
    rw [decide_eq_false hne]
    (repeat ((fail_if_success guard_target =~ gW (.seq (.region 12 _ _) _)); (fail_if_success guard_target =~ gW (.seq (.seq (.region 12 _ _) _) _)); first
        | (guard_target =~ gU _; first
            | (guard_target =~ gU []; first | refine WU.nilk ?_ | refine WU.nil ?_)
            | refine WU.yld rfl rfl rfl (by first | (guard_target =~ gY (.move _); exact ze rfl) | (guard_target =~ gY (.assign _); exact yf rfl) | (guard_target =~ gY (.load _ _); first | exact za rfl rfl | exact zb rfl) | (guard_target =~ gY (.fieldAddr _ _ _); exact yt rfl) | (guard_target =~ gY (.nilCheck _); first | exact zq rfl | exact zr rfl) | (guard_target =~ gY (.extract _ _); exact ys rfl rfl) | (guard_target =~ gY (.typeAssert _ _ _ true); first | exact ye rfl rfl | exact yd rfl rfl (by first | rfl | assumption) | exact yc rfl rfl) | (guard_target =~ gY (.typeAssert _ _ _ false); exact yb rfl rfl) | (guard_target =~ gY (.makeInterface _ _); exact zd rfl rfl) | (guard_target =~ gY (.pick _ _ _); first | exact zv rfl rfl | exact zu rfl rfl | exact zt rfl rfl rfl) | (guard_target =~ gY (.binOp .neq _ _ _ _); first | exact zj rfl rfl | exact zn rfl rfl | exact zm rfl rfl | exact zg rfl rfl | exact zh rfl rfl | exact zl rfl rfl | exact zf rfl rfl | exact zp rfl rfl | exact zk rfl rfl | exact zo rfl rfl | exact zi (by first | decide | assumption) rfl rfl) | (guard_target =~ gY (.binOp .eql _ _ _ _); first | exact yl rfl rfl | exact yp rfl rfl | exact yo rfl rfl | exact yi rfl rfl | exact yj rfl rfl | exact yn rfl rfl | exact yh rfl rfl | exact yr rfl rfl | exact ym rfl rfl | exact yq rfl rfl | exact yk (by first | decide | assumption) rfl rfl) | (guard_target =~ gY (.unOp .not _ _); exact zs rfl) | (guard_target =~ gY (.binOp .lss _ _ _ _); exact zc rfl rfl) | (guard_target =~ gY (.binOp .leq _ _ _ _); exact yz rfl rfl) | (guard_target =~ gY (.binOp .gtr _ _ _ _); exact yv rfl rfl) | (guard_target =~ gY (.binOp .geq _ _ _ _); exact yu rfl rfl) | (guard_target =~ gY (.binOp .add _ _ _ _); exact ya rfl rfl (by omega)) | (guard_target =~ gY (.binOp .sub _ _ _ _); exact zw rfl rfl (by omega)) | (guard_target =~ gY (.call _); first | exact yx rfl | exact yy rfl) | (guard_target =~ gY (.build _ _); exact yg rfl rfl) | (guard_target =~ gY (.indexAddr _ _ _); exact yw rfl rfl (by omega) (by omega))) ?_
            | refine WU.skip rfl rfl rfl ?_)
        | (guard_target =~ gW (.seq _ _); refine W.seq ?_)
        | (guard_target =~ gW (.region _ _ false); refine W.reg ?_)
        | (guard_target =~ gW (.cond _ _ _); first | refine W.cond_t rfl ?_ | refine W.cond_f rfl ?_)
        | (guard_target =~ gW (.block _ _); refine W.block ?_)
        | (guard_target =~ gW .skip; refine W.skip ?_)
        | (guard_target =~ gW (.exit _); refine W.exit ?_)
        | (guard_target =~ gW .ret; refine W.ret ?_)
        | (guard_target =~ gT .normal; refine thn_normal ?_)
        | (guard_target =~ gT (.exit _); refine thn_exit ?_)
        | (guard_target =~ gT .ret; refine thn_ret ?_)
        | (guard_target =~ gI .normal; refine inb_normal ?_)
        | (guard_target =~ gI (.exit _); first | refine inb_hit ?_ | refine inb_miss rfl ?_)
        | (guard_target =~ gI .ret; refine inb_ret ?_)))
    have xe := xd.trans x9
    have xg := n8.ext.trans x9
    exact W.use (tl12 (hx.ext xe) (hy.ext xe) xe (j2.ext' xg) (n8.has.ext' x9) (j3.ext' xg) hne) rfl (by exact sub_of ⟨rfl, rfl, rfl, rfl, rfl, rfl, rfl, rfl, trivial⟩)
  · (repeat (first
      | (guard_target =~ gU _; first
          | (guard_target =~ gU []; first | refine WU.nilk ?_ | refine WU.nil ?_)
          | refine WU.yld rfl rfl rfl (by first | (guard_target =~ gY (.move _); exact ze rfl) | (guard_target =~ gY (.assign _); exact yf rfl) | (guard_target =~ gY (.load _ _); first | exact za rfl rfl | exact zb rfl) | (guard_target =~ gY (.fieldAddr _ _ _); exact yt rfl) | (guard_target =~ gY (.nilCheck _); first | exact zq rfl | exact zr rfl) | (guard_target =~ gY (.extract _ _); exact ys rfl rfl) | (guard_target =~ gY (.typeAssert _ _ _ true); first | exact ye rfl rfl | exact yd rfl rfl (by first | rfl | assumption) | exact yc rfl rfl) | (guard_target =~ gY (.typeAssert _ _ _ false); exact yb rfl rfl) | (guard_target =~ gY (.makeInterface _ _); exact zd rfl rfl) | (guard_target =~ gY (.pick _ _ _); first | exact zv rfl rfl | exact zu rfl rfl | exact zt rfl rfl rfl) | (guard_target =~ gY (.binOp .neq _ _ _ _); first | exact zj rfl rfl | exact zn rfl rfl | exact zm rfl rfl | exact zg rfl rfl | exact zh rfl rfl | exact zl rfl rfl | exact zf rfl rfl | exact zp rfl rfl | exact zk rfl rfl | exact zo rfl rfl | exact zi (by first | decide | assumption) rfl rfl) | (guard_target =~ gY (.binOp .eql _ _ _ _); first | exact yl rfl rfl | exact yp rfl rfl | exact yo rfl rfl | exact yi rfl rfl | exact yj rfl rfl | exact yn rfl rfl | exact yh rfl rfl | exact yr rfl rfl | exact ym rfl rfl | exact yq rfl rfl | exact yk (by first | decide | assumption) rfl rfl) | (guard_target =~ gY (.unOp .not _ _); exact zs rfl) | (guard_target =~ gY (.binOp .lss _ _ _ _); exact zc rfl rfl) | (guard_target =~ gY (.binOp .leq _ _ _ _); exact yz rfl rfl) | (guard_target =~ gY (.binOp .gtr _ _ _ _); exact yv rfl rfl) | (guard_target =~ gY (.binOp .geq _ _ _ _); exact yu rfl rfl) | (guard_target =~ gY (.binOp .add _ _ _ _); exact ya rfl rfl (by omega)) | (guard_target =~ gY (.binOp .sub _ _ _ _); exact zw rfl rfl (by omega)) | (guard_target =~ gY (.call _); first | exact yx rfl | exact yy rfl) | (guard_target =~ gY (.build _ _); exact yg rfl rfl) | (guard_target =~ gY (.indexAddr _ _ _); exact yw rfl rfl (by omega) (by omega))) ?_
          | refine WU.skip rfl rfl rfl ?_)
      | (guard_target =~ gW (.seq _ _); refine W.seq ?_)
      | (guard_target =~ gW (.region _ _ false); refine W.reg ?_)
      | (guard_target =~ gW (.cond _ _ _); first | refine W.cond_t rfl ?_ | refine W.cond_f rfl ?_)
      | (guard_target =~ gW (.block _ _); refine W.block ?_)
      | (guard_target =~ gW .skip; refine W.skip ?_)
      | (guard_target =~ gW (.exit _); refine W.exit ?_)
      | (guard_target =~ gW .ret; refine W.ret ?_)
      | (guard_target =~ gT .normal; refine thn_normal ?_)
      | (guard_target =~ gT (.exit _); refine thn_exit ?_)
      | (guard_target =~ gT .ret; refine thn_ret ?_)
      | (guard_target =~ gI .normal; refine inb_normal ?_)
      | (guard_target =~ gI (.exit _); first | refine inb_hit ?_ | refine inb_miss rfl ?_)
      | (guard_target =~ gI .ret; refine inb_ret ?_)))
    exact fin1 (.inl rfl) rfl rfl ⟨by simp [convG, hasg], xa.trans x5⟩

theorem c_ConvertibleTo {x y : GT} {vx vy : Value} {w : World} (hx : Rep w vx x) (hy : Rep w vy y) :
    Calls Tryz.prog 29 #[vx, vy] w (Ret fun r w' => r = .bool (convG x y) ∧ Ext w w') := by
  obtain ⟨bx, rfl, _⟩ := hx.shape
  obtain ⟨b, rfl, _⟩ := hy.shape
  refine W.enter (args := [.iface (tagOf x) (.pointer (some ⟨bx, 0, none⟩)), .iface (tagOf y) (.pointer (some ⟨b, 0, none⟩))]) Tryz.func29 rfl Tryz.ntmps29 rfl rfl ?_
  (repeat (first
      | (guard_target =~ gU _; first
          | (guard_target =~ gU []; first | refine WU.nilk ?_ | refine WU.nil ?_)
          | refine WU.yld rfl rfl rfl (by first | (guard_target =~ gY (.move _); exact ze rfl) | (guard_target =~ gY (.assign _); exact yf rfl) | (guard_target =~ gY (.load _ _); first | exact za rfl rfl | exact zb rfl) | (guard_target =~ gY (.fieldAddr _ _ _); exact yt rfl) | (guard_target =~ gY (.nilCheck _); first | exact zq rfl | exact zr rfl) | (guard_target =~ gY (.extract _ _); exact ys rfl rfl) | (guard_target =~ gY (.typeAssert _ _ _ true); first | exact ye rfl rfl | exact yd rfl rfl (by first | rfl | assumption) | exact yc rfl rfl) | (guard_target =~ gY (.typeAssert _ _ _ false); exact yb rfl rfl) | (guard_target =~ gY (.makeInterface _ _); exact zd rfl rfl) | (guard_target =~ gY (.pick _ _ _); first | exact zv rfl rfl | exact zu rfl rfl | exact zt rfl rfl rfl) | (guard_target =~ gY (.binOp .neq _ _ _ _); first | exact zj rfl rfl | exact zn rfl rfl | exact zm rfl rfl | exact zg rfl rfl | exact zh rfl rfl | exact zl rfl rfl | exact zf rfl rfl | exact zp rfl rfl | exact zk rfl rfl | exact zo rfl rfl | exact zi (by first | decide | assumption) rfl rfl) | (guard_target =~ gY (.binOp .eql _ _ _ _); first | exact yl rfl rfl | exact yp rfl rfl | exact yo rfl rfl | exact yi rfl rfl | exact yj rfl rfl | exact yn rfl rfl | exact yh rfl rfl | exact yr rfl rfl | exact ym rfl rfl | exact yq rfl rfl | exact yk (by first | decide | assumption) rfl rfl) | (guard_target =~ gY (.unOp .not _ _); exact zs rfl) | (guard_target =~ gY (.binOp .lss _ _ _ _); exact zc rfl rfl) | (guard_target =~ gY (.binOp .leq _ _ _ _); exact yz rfl rfl) | (guard_target =~ gY (.binOp .gtr _ _ _ _); exact yv rfl rfl) | (guard_target =~ gY (.binOp .geq _ _ _ _); exact yu rfl rfl) | (guard_target =~ gY (.binOp .add _ _ _ _); exact ya rfl rfl (by omega)) | (guard_target =~ gY (.binOp .sub _ _ _ _); exact zw rfl rfl (by omega)) | (guard_target =~ gY (.call _); first | exact yx rfl | exact yy rfl) | (guard_target =~ gY (.build _ _); exact yg rfl rfl) | (guard_target =~ gY (.indexAddr _ _ _); exact yw rfl rfl (by omega) (by omega))) ?_
          | refine WU.skip rfl rfl rfl ?_)
      | (guard_target =~ gW (.seq _ _); refine W.seq ?_)
      | (guard_target =~ gW (.region _ _ false); refine W.reg ?_)
      | (guard_target =~ gW (.cond _ _ _); first | refine W.cond_t rfl ?_ | refine W.cond_f rfl ?_)
      | (guard_target =~ gW (.block _ _); refine W.block ?_)
      | (guard_target =~ gW .skip; refine W.skip ?_)
      | (guard_target =~ gW (.exit _); refine W.exit ?_)
      | (guard_target =~ gW .ret; refine W.ret ?_)
      | (guard_target =~ gT .normal; refine thn_normal ?_)
      | (guard_target =~ gT (.exit _); refine thn_exit ?_)
      | (guard_target =~ gT .ret; refine thn_ret ?_)
      | (guard_target =~ gI .normal; refine inb_normal ?_)
      | (guard_target =~ gI (.exit _); first | refine inb_hit ?_ | refine inb_miss rfl ?_)
      | (guard_target =~ gI .ret; refine inb_ret ?_)))
  refine WU.stp rfl rfl rfl stp_alloc ?_
  rintro _ w1 ⟨b1, rfl, n1⟩
  refine WU.stp0 rfl rfl (stp_store_whole rfl rfl rfl rfl) ?_
  rintro _ w2 u2
  have n2 := u2.ofNew n1
  (repeat (first
      | (guard_target =~ gU _; first
          | (guard_target =~ gU []; first | refine WU.nilk ?_ | refine WU.nil ?_)
          | refine WU.yld rfl rfl rfl (by first | (guard_target =~ gY (.move _); exact ze rfl) | (guard_target =~ gY (.assign _); exact yf rfl) | (guard_target =~ gY (.load _ _); first | exact za rfl rfl | exact zb rfl) | (guard_target =~ gY (.fieldAddr _ _ _); exact yt rfl) | (guard_target =~ gY (.nilCheck _); first | exact zq rfl | exact zr rfl) | (guard_target =~ gY (.extract _ _); exact ys rfl rfl) | (guard_target =~ gY (.typeAssert _ _ _ true); first | exact ye rfl rfl | exact yd rfl rfl (by first | rfl | assumption) | exact yc rfl rfl) | (guard_target =~ gY (.typeAssert _ _ _ false); exact yb rfl rfl) | (guard_target =~ gY (.makeInterface _ _); exact zd rfl rfl) | (guard_target =~ gY (.pick _ _ _); first | exact zv rfl rfl | exact zu rfl rfl | exact zt rfl rfl rfl) | (guard_target =~ gY (.binOp .neq _ _ _ _); first | exact zj rfl rfl | exact zn rfl rfl | exact zm rfl rfl | exact zg rfl rfl | exact zh rfl rfl | exact zl rfl rfl | exact zf rfl rfl | exact zp rfl rfl | exact zk rfl rfl | exact zo rfl rfl | exact zi (by first | decide | assumption) rfl rfl) | (guard_target =~ gY (.binOp .eql _ _ _ _); first | exact yl rfl rfl | exact yp rfl rfl | exact yo rfl rfl | exact yi rfl rfl | exact yj rfl rfl | exact yn rfl rfl | exact yh rfl rfl | exact yr rfl rfl | exact ym rfl rfl | exact yq rfl rfl | exact yk (by first | decide | assumption) rfl rfl) | (guard_target =~ gY (.unOp .not _ _); exact zs rfl) | (guard_target =~ gY (.binOp .lss _ _ _ _); exact zc rfl rfl) | (guard_target =~ gY (.binOp .leq _ _ _ _); exact yz rfl rfl) | (guard_target =~ gY (.binOp .gtr _ _ _ _); exact yv rfl rfl) | (guard_target =~ gY (.binOp .geq _ _ _ _); exact yu rfl rfl) | (guard_target =~ gY (.binOp .add _ _ _ _); exact ya rfl rfl (by omega)) | (guard_target =~ gY (.binOp .sub _ _ _ _); exact zw rfl rfl (by omega)) | (guard_target =~ gY (.call _); first | exact yx rfl | exact yy rfl) | (guard_target =~ gY (.build _ _); exact yg rfl rfl) | (guard_target =~ gY (.indexAddr _ _ _); exact yw rfl rfl (by omega) (by omega))) ?_
          | refine WU.skip rfl rfl rfl ?_)
      | (guard_target =~ gW (.seq _ _); refine W.seq ?_)
      | (guard_target =~ gW (.region _ _ false); refine W.reg ?_)
      | (guard_target =~ gW (.cond _ _ _); first | refine W.cond_t rfl ?_ | refine W.cond_f rfl ?_)
      | (guard_target =~ gW (.block _ _); refine W.block ?_)
      | (guard_target =~ gW .skip; refine W.skip ?_)
      | (guard_target =~ gW (.exit _); refine W.exit ?_)
      | (guard_target =~ gW .ret; refine W.ret ?_)
      | (guard_target =~ gT .normal; refine thn_normal ?_)
      | (guard_target =~ gT (.exit _); refine thn_exit ?_)
      | (guard_target =~ gT .ret; refine thn_ret ?_)
      | (guard_target =~ gI .normal; refine inb_normal ?_)
      | (guard_target =~ gI (.exit _); first | refine inb_hit ?_ | refine inb_miss rfl ?_)
      | (guard_target =~ gI .ret; refine inb_ret ?_)))
  refine WU.stp rfl rfl rfl (stp_call rfl (c_convertibleTo (hx.ext n2.ext) (hy.ext n2.ext) n2.has)) ?_
  rintro _ w3 ⟨rfl, x3⟩
  (repeat (first
      | (guard_target =~ gU _; first
          | (guard_target =~ gU []; first | refine WU.nilk ?_ | refine WU.nil ?_)
          | refine WU.yld rfl rfl rfl (by first | (guard_target =~ gY (.move _); exact ze rfl) | (guard_target =~ gY (.assign _); exact yf rfl) | (guard_target =~ gY (.load _ _); first | exact za rfl rfl | exact zb rfl) | (guard_target =~ gY (.fieldAddr _ _ _); exact yt rfl) | (guard_target =~ gY (.nilCheck _); first | exact zq rfl | exact zr rfl) | (guard_target =~ gY (.extract _ _); exact ys rfl rfl) | (guard_target =~ gY (.typeAssert _ _ _ true); first | exact ye rfl rfl | exact yd rfl rfl (by first | rfl | assumption) | exact yc rfl rfl) | (guard_target =~ gY (.typeAssert _ _ _ false); exact yb rfl rfl) | (guard_target =~ gY (.makeInterface _ _); exact zd rfl rfl) | (guard_target =~ gY (.pick _ _ _); first | exact zv rfl rfl | exact zu rfl rfl | exact zt rfl rfl rfl) | (guard_target =~ gY (.binOp .neq _ _ _ _); first | exact zj rfl rfl | exact zn rfl rfl | exact zm rfl rfl | exact zg rfl rfl | exact zh rfl rfl | exact zl rfl rfl | exact zf rfl rfl | exact zp rfl rfl | exact zk rfl rfl | exact zo rfl rfl | exact zi (by first | decide | assumption) rfl rfl) | (guard_target =~ gY (.binOp .eql _ _ _ _); first | exact yl rfl rfl | exact yp rfl rfl | exact yo rfl rfl | exact yi rfl rfl | exact yj rfl rfl | exact yn rfl rfl | exact yh rfl rfl | exact yr rfl rfl | exact ym rfl rfl | exact yq rfl rfl | exact yk (by first | decide | assumption) rfl rfl) | (guard_target =~ gY (.unOp .not _ _); exact zs rfl) | (guard_target =~ gY (.binOp .lss _ _ _ _); exact zc rfl rfl) | (guard_target =~ gY (.binOp .leq _ _ _ _); exact yz rfl rfl) | (guard_target =~ gY (.binOp .gtr _ _ _ _); exact yv rfl rfl) | (guard_target =~ gY (.binOp .geq _ _ _ _); exact yu rfl rfl) | (guard_target =~ gY (.binOp .add _ _ _ _); exact ya rfl rfl (by omega)) | (guard_target =~ gY (.binOp .sub _ _ _ _); exact zw rfl rfl (by omega)) | (guard_target =~ gY (.call _); first | exact yx rfl | exact yy rfl) | (guard_target =~ gY (.build _ _); exact yg rfl rfl) | (guard_target =~ gY (.indexAddr _ _ _); exact yw rfl rfl (by omega) (by omega))) ?_
          | refine WU.skip rfl rfl rfl ?_)
      | (guard_target =~ gW (.seq _ _); refine W.seq ?_)
      | (guard_target =~ gW (.region _ _ false); refine W.reg ?_)
      | (guard_target =~ gW (.cond _ _ _); first | refine W.cond_t rfl ?_ | refine W.cond_f rfl ?_)
      | (guard_target =~ gW (.block _ _); refine W.block ?_)
      | (guard_target =~ gW .skip; refine W.skip ?_)
      | (guard_target =~ gW (.exit _); refine W.exit ?_)
      | (guard_target =~ gW .ret; refine W.ret ?_)
      | (guard_target =~ gT .normal; refine thn_normal ?_)
      | (guard_target =~ gT (.exit _); refine thn_exit ?_)
      | (guard_target =~ gT .ret; refine thn_ret ?_)
      | (guard_target =~ gI .normal; refine inb_normal ?_)
      | (guard_target =~ gI (.exit _); first | refine inb_hit ?_ | refine inb_miss rfl ?_)
      | (guard_target =~ gI .ret; refine inb_ret ?_)))
  exact fin1 (.inl rfl) rfl rfl ⟨rfl, n2.ext.trans x3⟩

theorem c_ConvertiblePlain {x y : Nat} {t u : PT} {w : World} {k n k' n' : Int} {a a' : Option Addr} {l c l' c' : Nat} {nm tg nm' tg' : ByteArray} {em em' : Bool}
    (hx : DRep w x t k n (.slice a l c)) (hy : DRep w y u k' n' (.slice a' l' c')) (ht : t.ok) (hu : u.ok) :
    Calls Tryz.prog 18 #[tyv k n 0 false (.slice a l c) nm tg em, tyv k' n' 0 false (.slice a' l' c') nm' tg' em'] w
      (Ret fun r w' => r = .bool (convG t.gt u.gt) ∧ Ext w w') := by
  refine W.enter (args := [tyv k n 0 false (.slice a l c) nm tg em, tyv k' n' 0 false (.slice a' l' c') nm' tg' em']) Tryz.func18 rfl Tryz.ntmps18 rfl rfl ?_
  (repeat (first
      | (guard_target =~ gU _; first
          | (guard_target =~ gU []; first | refine WU.nilk ?_ | refine WU.nil ?_)
          | refine WU.yld rfl rfl rfl (by first | (guard_target =~ gY (.move _); exact ze rfl) | (guard_target =~ gY (.assign _); exact yf rfl) | (guard_target =~ gY (.load _ _); first | exact za rfl rfl | exact zb rfl) | (guard_target =~ gY (.fieldAddr _ _ _); exact yt rfl) | (guard_target =~ gY (.nilCheck _); first | exact zq rfl | exact zr rfl) | (guard_target =~ gY (.extract _ _); exact ys rfl rfl) | (guard_target =~ gY (.typeAssert _ _ _ true); first | exact ye rfl rfl | exact yd rfl rfl (by first | rfl | assumption) | exact yc rfl rfl) | (guard_target =~ gY (.typeAssert _ _ _ false); exact yb rfl rfl) | (guard_target =~ gY (.makeInterface _ _); exact zd rfl rfl) | (guard_target =~ gY (.pick _ _ _); first | exact zv rfl rfl | exact zu rfl rfl | exact zt rfl rfl rfl) | (guard_target =~ gY (.binOp .neq _ _ _ _); first | exact zj rfl rfl | exact zn rfl rfl | exact zm rfl rfl | exact zg rfl rfl | exact zh rfl rfl | exact zl rfl rfl | exact zf rfl rfl | exact zp rfl rfl | exact zk rfl rfl | exact zo rfl rfl | exact zi (by first | decide | assumption) rfl rfl) | (guard_target =~ gY (.binOp .eql _ _ _ _); first | exact yl rfl rfl | exact yp rfl rfl | exact yo rfl rfl | exact yi rfl rfl | exact yj rfl rfl | exact yn rfl rfl | exact yh rfl rfl | exact yr rfl rfl | exact ym rfl rfl | exact yq rfl rfl | exact yk (by first | decide | assumption) rfl rfl) | (guard_target =~ gY (.unOp .not _ _); exact zs rfl) | (guard_target =~ gY (.binOp .lss _ _ _ _); exact zc rfl rfl) | (guard_target =~ gY (.binOp .leq _ _ _ _); exact yz rfl rfl) | (guard_target =~ gY (.binOp .gtr _ _ _ _); exact yv rfl rfl) | (guard_target =~ gY (.binOp .geq _ _ _ _); exact yu rfl rfl) | (guard_target =~ gY (.binOp .add _ _ _ _); exact ya rfl rfl (by omega)) | (guard_target =~ gY (.binOp .sub _ _ _ _); exact zw rfl rfl (by omega)) | (guard_target =~ gY (.call _); first | exact yx rfl | exact yy rfl) | (guard_target =~ gY (.build _ _); exact yg rfl rfl) | (guard_target =~ gY (.indexAddr _ _ _); exact yw rfl rfl (by omega) (by omega))) ?_
          | refine WU.skip rfl rfl rfl ?_)
      | (guard_target =~ gW (.seq _ _); refine W.seq ?_)
      | (guard_target =~ gW (.region _ _ false); refine W.reg ?_)
      | (guard_target =~ gW (.cond _ _ _); first | refine W.cond_t rfl ?_ | refine W.cond_f rfl ?_)
      | (guard_target =~ gW (.block _ _); refine W.block ?_)
      | (guard_target =~ gW .skip; refine W.skip ?_)
      | (guard_target =~ gW (.exit _); refine W.exit ?_)
      | (guard_target =~ gW .ret; refine W.ret ?_)
      | (guard_target =~ gT .normal; refine thn_normal ?_)
      | (guard_target =~ gT (.exit _); refine thn_exit ?_)
      | (guard_target =~ gT .ret; refine thn_ret ?_)
      | (guard_target =~ gI .normal; refine inb_normal ?_)
      | (guard_target =~ gI (.exit _); first | refine inb_hit ?_ | refine inb_miss rfl ?_)
      | (guard_target =~ gI .ret; refine inb_ret ?_)))
  refine WU.stp rfl rfl rfl (by first | exact stp_box rfl rfl | exact stp_box1 rfl rfl) ?_
  rintro _ w1 ⟨b1, rfl, n1⟩
  refine WU.stp rfl rfl rfl (by first | exact stp_box rfl rfl | exact stp_box1 rfl rfl) ?_
  rintro _ w2 ⟨b2, rfl, n2⟩
  (repeat (first
      | (guard_target =~ gU _; first
          | (guard_target =~ gU []; first | refine WU.nilk ?_ | refine WU.nil ?_)
          | refine WU.yld rfl rfl rfl (by first | (guard_target =~ gY (.move _); exact ze rfl) | (guard_target =~ gY (.assign _); exact yf rfl) | (guard_target =~ gY (.load _ _); first | exact za rfl rfl | exact zb rfl) | (guard_target =~ gY (.fieldAddr _ _ _); exact yt rfl) | (guard_target =~ gY (.nilCheck _); first | exact zq rfl | exact zr rfl) | (guard_target =~ gY (.extract _ _); exact ys rfl rfl) | (guard_target =~ gY (.typeAssert _ _ _ true); first | exact ye rfl rfl | exact yd rfl rfl (by first | rfl | assumption) | exact yc rfl rfl) | (guard_target =~ gY (.typeAssert _ _ _ false); exact yb rfl rfl) | (guard_target =~ gY (.makeInterface _ _); exact zd rfl rfl) | (guard_target =~ gY (.pick _ _ _); first | exact zv rfl rfl | exact zu rfl rfl | exact zt rfl rfl rfl) | (guard_target =~ gY (.binOp .neq _ _ _ _); first | exact zj rfl rfl | exact zn rfl rfl | exact zm rfl rfl | exact zg rfl rfl | exact zh rfl rfl | exact zl rfl rfl | exact zf rfl rfl | exact zp rfl rfl | exact zk rfl rfl | exact zo rfl rfl | exact zi (by first | decide | assumption) rfl rfl) | (guard_target =~ gY (.binOp .eql _ _ _ _); first | exact yl rfl rfl | exact yp rfl rfl | exact yo rfl rfl | exact yi rfl rfl | exact yj rfl rfl | exact yn rfl rfl | exact yh rfl rfl | exact yr rfl rfl | exact ym rfl rfl | exact yq rfl rfl | exact yk (by first | decide | assumption) rfl rfl) | (guard_target =~ gY (.unOp .not _ _); exact zs rfl) | (guard_target =~ gY (.binOp .lss _ _ _ _); exact zc rfl rfl) | (guard_target =~ gY (.binOp .leq _ _ _ _); exact yz rfl rfl) | (guard_target =~ gY (.binOp .gtr _ _ _ _); exact yv rfl rfl) | (guard_target =~ gY (.binOp .geq _ _ _ _); exact yu rfl rfl) | (guard_target =~ gY (.binOp .add _ _ _ _); exact ya rfl rfl (by omega)) | (guard_target =~ gY (.binOp .sub _ _ _ _); exact zw rfl rfl (by omega)) | (guard_target =~ gY (.call _); first | exact yx rfl | exact yy rfl) | (guard_target =~ gY (.build _ _); exact yg rfl rfl) | (guard_target =~ gY (.indexAddr _ _ _); exact yw rfl rfl (by omega) (by omega))) ?_
          | refine WU.skip rfl rfl rfl ?_)
      | (guard_target =~ gW (.seq _ _); refine W.seq ?_)
      | (guard_target =~ gW (.region _ _ false); refine W.reg ?_)
      | (guard_target =~ gW (.cond _ _ _); first | refine W.cond_t rfl ?_ | refine W.cond_f rfl ?_)
      | (guard_target =~ gW (.block _ _); refine W.block ?_)
      | (guard_target =~ gW .skip; refine W.skip ?_)
      | (guard_target =~ gW (.exit _); refine W.exit ?_)
      | (guard_target =~ gW .ret; refine W.ret ?_)
      | (guard_target =~ gT .normal; refine thn_normal ?_)
      | (guard_target =~ gT (.exit _); refine thn_exit ?_)
      | (guard_target =~ gT .ret; refine thn_ret ?_)
      | (guard_target =~ gI .normal; refine inb_normal ?_)
      | (guard_target =~ gI (.exit _); first | refine inb_hit ?_ | refine inb_miss rfl ?_)
      | (guard_target =~ gI .ret; refine inb_ret ?_)))
  have x2 := n1.ext.trans n2.ext
  refine W.regD [(0, .q), (2, .q), (1, .l), (3, .l), (4, .l), (5, .q)] (by kernel_rfl) (by kernel_rfl) rfl ?_
  intro w3 x3 _
  (repeat (first
      | (guard_target =~ WD _ _ _ _ [] _ _ _; first | refine WD.nilk ?_ | refine WD.nil ?_)
      | refine WD.yld rfl rfl rfl rfl (by first | (guard_target =~ gY (.move _); exact ze rfl) | (guard_target =~ gY (.assign _); exact yf rfl) | (guard_target =~ gY (.load _ _); first | exact za rfl rfl | exact zb rfl) | (guard_target =~ gY (.fieldAddr _ _ _); exact yt rfl) | (guard_target =~ gY (.nilCheck _); first | exact zq rfl | exact zr rfl) | (guard_target =~ gY (.extract _ _); exact ys rfl rfl) | (guard_target =~ gY (.typeAssert _ _ _ true); first | exact ye rfl rfl | exact yd rfl rfl (by first | rfl | assumption) | exact yc rfl rfl) | (guard_target =~ gY (.typeAssert _ _ _ false); exact yb rfl rfl) | (guard_target =~ gY (.makeInterface _ _); exact zd rfl rfl) | (guard_target =~ gY (.pick _ _ _); first | exact zv rfl rfl | exact zu rfl rfl | exact zt rfl rfl rfl) | (guard_target =~ gY (.binOp .neq _ _ _ _); first | exact zj rfl rfl | exact zn rfl rfl | exact zm rfl rfl | exact zg rfl rfl | exact zh rfl rfl | exact zl rfl rfl | exact zf rfl rfl | exact zp rfl rfl | exact zk rfl rfl | exact zo rfl rfl | exact zi (by first | decide | assumption) rfl rfl) | (guard_target =~ gY (.binOp .eql _ _ _ _); first | exact yl rfl rfl | exact yp rfl rfl | exact yo rfl rfl | exact yi rfl rfl | exact yj rfl rfl | exact yn rfl rfl | exact yh rfl rfl | exact yr rfl rfl | exact ym rfl rfl | exact yq rfl rfl | exact yk (by first | decide | assumption) rfl rfl) | (guard_target =~ gY (.unOp .not _ _); exact zs rfl) | (guard_target =~ gY (.binOp .lss _ _ _ _); exact zc rfl rfl) | (guard_target =~ gY (.binOp .leq _ _ _ _); exact yz rfl rfl) | (guard_target =~ gY (.binOp .gtr _ _ _ _); exact yv rfl rfl) | (guard_target =~ gY (.binOp .geq _ _ _ _); exact yu rfl rfl) | (guard_target =~ gY (.binOp .add _ _ _ _); exact ya rfl rfl (by omega)) | (guard_target =~ gY (.binOp .sub _ _ _ _); exact zw rfl rfl (by omega)) | (guard_target =~ gY (.call _); first | exact yx rfl | exact yy rfl) | (guard_target =~ gY (.build _ _); exact yg rfl rfl) | (guard_target =~ gY (.indexAddr _ _ _); exact yw rfl rfl (by omega) (by omega))) ?_
      | refine WD.skip rfl rfl rfl rfl ?_))
  refine WD.stp rfl rfl rfl rfl (stp_call rfl (c_plain hx nm tg em w3 (x2.trans x3) ht)) ?_
  rintro _ w4 ⟨hr, x4⟩
  refine ⟨by first | assumption | exact Ext.rfl' _ | infer_instance, ?_⟩
  (repeat (first
      | (guard_target =~ WD _ _ _ _ [] _ _ _; first | refine WD.nilk ?_ | refine WD.nil ?_)
      | refine WD.yld rfl rfl rfl rfl (by first | (guard_target =~ gY (.move _); exact ze rfl) | (guard_target =~ gY (.assign _); exact yf rfl) | (guard_target =~ gY (.load _ _); first | exact za rfl rfl | exact zb rfl) | (guard_target =~ gY (.fieldAddr _ _ _); exact yt rfl) | (guard_target =~ gY (.nilCheck _); first | exact zq rfl | exact zr rfl) | (guard_target =~ gY (.extract _ _); exact ys rfl rfl) | (guard_target =~ gY (.typeAssert _ _ _ true); first | exact ye rfl rfl | exact yd rfl rfl (by first | rfl | assumption) | exact yc rfl rfl) | (guard_target =~ gY (.typeAssert _ _ _ false); exact yb rfl rfl) | (guard_target =~ gY (.makeInterface _ _); exact zd rfl rfl) | (guard_target =~ gY (.pick _ _ _); first | exact zv rfl rfl | exact zu rfl rfl | exact zt rfl rfl rfl) | (guard_target =~ gY (.binOp .neq _ _ _ _); first | exact zj rfl rfl | exact zn rfl rfl | exact zm rfl rfl | exact zg rfl rfl | exact zh rfl rfl | exact zl rfl rfl | exact zf rfl rfl | exact zp rfl rfl | exact zk rfl rfl | exact zo rfl rfl | exact zi (by first | decide | assumption) rfl rfl) | (guard_target =~ gY (.binOp .eql _ _ _ _); first | exact yl rfl rfl | exact yp rfl rfl | exact yo rfl rfl | exact yi rfl rfl | exact yj rfl rfl | exact yn rfl rfl | exact yh rfl rfl | exact yr rfl rfl | exact ym rfl rfl | exact yq rfl rfl | exact yk (by first | decide | assumption) rfl rfl) | (guard_target =~ gY (.unOp .not _ _); exact zs rfl) | (guard_target =~ gY (.binOp .lss _ _ _ _); exact zc rfl rfl) | (guard_target =~ gY (.binOp .leq _ _ _ _); exact yz rfl rfl) | (guard_target =~ gY (.binOp .gtr _ _ _ _); exact yv rfl rfl) | (guard_target =~ gY (.binOp .geq _ _ _ _); exact yu rfl rfl) | (guard_target =~ gY (.binOp .add _ _ _ _); exact ya rfl rfl (by omega)) | (guard_target =~ gY (.binOp .sub _ _ _ _); exact zw rfl rfl (by omega)) | (guard_target =~ gY (.call _); first | exact yx rfl | exact yy rfl) | (guard_target =~ gY (.build _ _); exact yg rfl rfl) | (guard_target =~ gY (.indexAddr _ _ _); exact yw rfl rfl (by omega) (by omega))) ?_
      | refine WD.skip rfl rfl rfl rfl ?_))
  refine WD.stp rfl rfl rfl rfl (stp_call rfl (c_plain hy nm' tg' em' w4 (x2.trans (x3.trans x4)) hu)) ?_
  rintro _ w5 ⟨hs, x5⟩
  refine ⟨by first | assumption | exact Ext.rfl' _ | infer_instance, ?_⟩
  refine WD.stp rfl rfl rfl rfl (stp_call rfl (c_ConvertibleTo (hr.ext x5) hs)) ?_
  rintro _ w6 ⟨rfl, x6⟩
  refine ⟨by first | assumption | exact Ext.rfl' _ | infer_instance, ?_⟩
  (repeat (first
      | (guard_target =~ WD _ _ _ _ [] _ _ _; first | refine WD.nilk ?_ | refine WD.nil ?_)
      | refine WD.yld rfl rfl rfl rfl (by first | (guard_target =~ gY (.move _); exact ze rfl) | (guard_target =~ gY (.assign _); exact yf rfl) | (guard_target =~ gY (.load _ _); first | exact za rfl rfl | exact zb rfl) | (guard_target =~ gY (.fieldAddr _ _ _); exact yt rfl) | (guard_target =~ gY (.nilCheck _); first | exact zq rfl | exact zr rfl) | (guard_target =~ gY (.extract _ _); exact ys rfl rfl) | (guard_target =~ gY (.typeAssert _ _ _ true); first | exact ye rfl rfl | exact yd rfl rfl (by first | rfl | assumption) | exact yc rfl rfl) | (guard_target =~ gY (.typeAssert _ _ _ false); exact yb rfl rfl) | (guard_target =~ gY (.makeInterface _ _); exact zd rfl rfl) | (guard_target =~ gY (.pick _ _ _); first | exact zv rfl rfl | exact zu rfl rfl | exact zt rfl rfl rfl) | (guard_target =~ gY (.binOp .neq _ _ _ _); first | exact zj rfl rfl | exact zn rfl rfl | exact zm rfl rfl | exact zg rfl rfl | exact zh rfl rfl | exact zl rfl rfl | exact zf rfl rfl | exact zp rfl rfl | exact zk rfl rfl | exact zo rfl rfl | exact zi (by first | decide | assumption) rfl rfl) | (guard_target =~ gY (.binOp .eql _ _ _ _); first | exact yl rfl rfl | exact yp rfl rfl | exact yo rfl rfl | exact yi rfl rfl | exact yj rfl rfl | exact yn rfl rfl | exact yh rfl rfl | exact yr rfl rfl | exact ym rfl rfl | exact yq rfl rfl | exact yk (by first | decide | assumption) rfl rfl) | (guard_target =~ gY (.unOp .not _ _); exact zs rfl) | (guard_target =~ gY (.binOp .lss _ _ _ _); exact zc rfl rfl) | (guard_target =~ gY (.binOp .leq _ _ _ _); exact yz rfl rfl) | (guard_target =~ gY (.binOp .gtr _ _ _ _); exact yv rfl rfl) | (guard_target =~ gY (.binOp .geq _ _ _ _); exact yu rfl rfl) | (guard_target =~ gY (.binOp .add _ _ _ _); exact ya rfl rfl (by omega)) | (guard_target =~ gY (.binOp .sub _ _ _ _); exact zw rfl rfl (by omega)) | (guard_target =~ gY (.call _); first | exact yx rfl | exact yy rfl) | (guard_target =~ gY (.build _ _); exact yg rfl rfl) | (guard_target =~ gY (.indexAddr _ _ _); exact yw rfl rfl (by omega) (by omega))) ?_
      | refine WD.skip rfl rfl rfl rfl ?_))
  (repeat (first
      | (guard_target =~ gU _; first
          | (guard_target =~ gU []; first | refine WU.nilk ?_ | refine WU.nil ?_)
          | refine WU.yld rfl rfl rfl (by first | (guard_target =~ gY (.move _); exact ze rfl) | (guard_target =~ gY (.assign _); exact yf rfl) | (guard_target =~ gY (.load _ _); first | exact za rfl rfl | exact zb rfl) | (guard_target =~ gY (.fieldAddr _ _ _); exact yt rfl) | (guard_target =~ gY (.nilCheck _); first | exact zq rfl | exact zr rfl) | (guard_target =~ gY (.extract _ _); exact ys rfl rfl) | (guard_target =~ gY (.typeAssert _ _ _ true); first | exact ye rfl rfl | exact yd rfl rfl (by first | rfl | assumption) | exact yc rfl rfl) | (guard_target =~ gY (.typeAssert _ _ _ false); exact yb rfl rfl) | (guard_target =~ gY (.makeInterface _ _); exact zd rfl rfl) | (guard_target =~ gY (.pick _ _ _); first | exact zv rfl rfl | exact zu rfl rfl | exact zt rfl rfl rfl) | (guard_target =~ gY (.binOp .neq _ _ _ _); first | exact zj rfl rfl | exact zn rfl rfl | exact zm rfl rfl | exact zg rfl rfl | exact zh rfl rfl | exact zl rfl rfl | exact zf rfl rfl | exact zp rfl rfl | exact zk rfl rfl | exact zo rfl rfl | exact zi (by first | decide | assumption) rfl rfl) | (guard_target =~ gY (.binOp .eql _ _ _ _); first | exact yl rfl rfl | exact yp rfl rfl | exact yo rfl rfl | exact yi rfl rfl | exact yj rfl rfl | exact yn rfl rfl | exact yh rfl rfl | exact yr rfl rfl | exact ym rfl rfl | exact yq rfl rfl | exact yk (by first | decide | assumption) rfl rfl) | (guard_target =~ gY (.unOp .not _ _); exact zs rfl) | (guard_target =~ gY (.binOp .lss _ _ _ _); exact zc rfl rfl) | (guard_target =~ gY (.binOp .leq _ _ _ _); exact yz rfl rfl) | (guard_target =~ gY (.binOp .gtr _ _ _ _); exact yv rfl rfl) | (guard_target =~ gY (.binOp .geq _ _ _ _); exact yu rfl rfl) | (guard_target =~ gY (.binOp .add _ _ _ _); exact ya rfl rfl (by omega)) | (guard_target =~ gY (.binOp .sub _ _ _ _); exact zw rfl rfl (by omega)) | (guard_target =~ gY (.call _); first | exact yx rfl | exact yy rfl) | (guard_target =~ gY (.build _ _); exact yg rfl rfl) | (guard_target =~ gY (.indexAddr _ _ _); exact yw rfl rfl (by omega) (by omega))) ?_
          | refine WU.skip rfl rfl rfl ?_)
      | (guard_target =~ gW (.seq _ _); refine W.seq ?_)
      | (guard_target =~ gW (.region _ _ false); refine W.reg ?_)
      | (guard_target =~ gW (.cond _ _ _); first | refine W.cond_t rfl ?_ | refine W.cond_f rfl ?_)
      | (guard_target =~ gW (.block _ _); refine W.block ?_)
      | (guard_target =~ gW .skip; refine W.skip ?_)
      | (guard_target =~ gW (.exit _); refine W.exit ?_)
      | (guard_target =~ gW .ret; refine W.ret ?_)
      | (guard_target =~ gT .normal; refine thn_normal ?_)
      | (guard_target =~ gT (.exit _); refine thn_exit ?_)
      | (guard_target =~ gT .ret; refine thn_ret ?_)
      | (guard_target =~ gI .normal; refine inb_normal ?_)
      | (guard_target =~ gI (.exit _); first | refine inb_hit ?_ | refine inb_miss rfl ?_)
      | (guard_target =~ gI .ret; refine inb_ret ?_)))
  exact fin1 (.inl rfl) rfl rfl ⟨rfl, x2.trans (x3.trans (x4.trans (x5.trans x6)))⟩
end Go.Proofs.YtnmodbmaokilaaaGreatDoor

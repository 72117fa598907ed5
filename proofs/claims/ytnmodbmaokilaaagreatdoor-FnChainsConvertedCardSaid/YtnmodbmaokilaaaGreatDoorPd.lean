/- The plain family, part 13: convertibleTo, over plain types. -/
import Derived.Test.YtnmodbmaokilaaaGreatDoorPc
namespace Go.Proofs.YtnmodbmaokilaaaGreatDoor
open Go Go.Kd
set_option maxRecDepth 100000

set_option maxHeartbeats 1000000 in
theorem t2_no {x y : GT} {bx b b2 b5 : Nat} {w0 w : World} (hx : Rep w (.iface (tagOf x) (.pointer (some ⟨bx, 0, none⟩))) x) (hw : Ext w0 w) (h2 : Has w b2 (.cells #[.pointer none] 155)) (h5 : Has w b5 (.cells #[.pointer none] 146)) (hs : Nat.beq (tagOf x) 56 = false) :
    ∃ c, dropO 30 (bodyOf Tryz.f42) = some c ∧ W Tryz.prog 227 c (fin Tryz.prog Tryz.f42 (Ret fun v w' => v = .bool false ∧ Ext w0 w')) []
      [(5, .pointer (some ⟨b2, 0, none⟩)), (8, .bool false), (12, (.iface (tagOf x) (.pointer (some ⟨bx, 0, none⟩)))), (13, (.iface (tagOf y) (.pointer (some ⟨b, 0, none⟩)))), (14, .pointer none), (16, .pointer (some ⟨b5, 0, none⟩))] w := by
  refine ⟨_, rfl, ?_⟩
  (repeat (first
      | (guard_target =~ gU _; first
          | (guard_target =~ gU []; first | refine WU.nilk ?_ | refine WU.nil ?_)
          | refine WU.yld rfl rfl rfl (by first | (guard_target =~ gY (.move _); exact ze rfl) | (guard_target =~ gY (.assign _); exact yf rfl) | (guard_target =~ gY (.load _ _); first | exact za rfl rfl | exact zb rfl) | (guard_target =~ gY (.fieldAddr _ _ _); exact yt rfl) | (guard_target =~ gY (.nilCheck _); first | exact zq rfl | exact zr rfl) | (guard_target =~ gY (.extract _ _); exact ys rfl rfl) | (guard_target =~ gY (.typeAssert _ _ _ true); first | exact ye rfl rfl | exact yd rfl rfl (by first | rfl | assumption) | exact yc rfl rfl) | (guard_target =~ gY (.typeAssert _ _ _ false); exact yb rfl rfl) | (guard_target =~ gY (.makeInterface _ _); exact zd rfl rfl) | (guard_target =~ gY (.pick _ _ _); first | exact zv rfl rfl | exact zu rfl rfl | exact zt rfl rfl rfl) | (guard_target =~ gY (.binOp .neq _ _ _ _); first | exact zj rfl rfl | exact zn rfl rfl | exact zm rfl rfl | exact zg rfl rfl | exact zh rfl rfl | exact zl rfl rfl | exact zf rfl rfl | exact zp rfl rfl | exact zk rfl rfl | exact zo rfl rfl | exact zi (by first | decide | assumption) rfl rfl) | (guard_target =~ gY (.binOp .eql _ _ _ _); first | exact yl rfl rfl | exact yp rfl rfl | exact yo rfl rfl | exact yi rfl rfl | exact yj rfl rfl | exact yn rfl rfl | exact yh rfl rfl | exact yr rfl rfl | exact ym rfl rfl | exact yq rfl rfl | exact yk (by first | decide | assumption) rfl rfl) | (guard_target =~ gY (.unOp .not _ _); exact zs rfl) | (guard_target =~ gY (.binOp .lss _ _ _ _); exact zc rfl rfl) | (guard_target =~ gY (.binOp .leq _ _ _ _); exact yz rfl rfl) | (guard_target =~ gY (.binOp .gtr _ _ _ _); exact yv rfl rfl) | (guard_target =~ gY (.binOp .geq _ _ _ _); exact yu rfl rfl) | (guard_target =~ gY (.binOp .add _ _ _ _); exact ya rfl rfl (by omega)) | (guard_target =~ gY (.binOp .sub _ _ _ _); exact zw rfl rfl (by omega)) | (guard_target =~ gY (.call _); first | exact yx rfl | exact yy rfl) | (guard_target =~ gY (.build _ _); exact yg rfl rfl) | (guard_target =~ gY (.indexAddr _ _ _); exact yw rfl rfl (by omega) (by omega))) ?_
          | refine WU.skip rfl rfl rfl ?_)
      | (guard_target =~ gW (.seq _ _); refine W.seq ?_)
      | (guard_target =~ gW (.region _ _ false); refine W.reg ?_)
      | (guard_target =~ gW (.cond _ _ _); first | refine W.cond_t rfl ?_ | refine W.cond_f rfl ?_)
      | (guard_target =~ gW (.block _ _); refine W.block ?_)
      | (guard_target =~ gW .skip; refine W.skip ?_)
      | (guard_target =~ gW (.exit _); refine W.exit ?_)
      | (guard_target =~ gW .ret; refine W.ret ?_)
      | (guard_target =~ gT .normal; refine thn_normal ?_)
      | (guard_target =~ gT (.exit _); refine thn_exit ?_)
      | (guard_target =~ gT .ret; refine thn_ret ?_)
      | (guard_target =~ gI .normal; refine inb_normal ?_)
      | (guard_target =~ gI (.exit _); first | refine inb_hit ?_ | refine inb_miss rfl ?_)
      | (guard_target =~ gI .ret; refine inb_ret ?_)))
  exact fin1 (.inl rfl) rfl rfl ⟨rfl, hw⟩

set_option maxHeartbeats 1000000 in
theorem t2_arr {t u : GT} {m : Int} {bx b b2 b5 : Nat} {w0 w : World} (hx : Rep w (.iface 56 (.pointer (some ⟨bx, 0, none⟩))) (.slice t)) (hy : Rep w (.iface 58 (.pointer (some ⟨b, 0, none⟩))) (.array m u)) (hw : Ext w0 w) (h2 : Has w b2 (.cells #[.pointer none] 155)) (h5 : Has w b5 (.cells #[.pointer none] 146)) :
    ∃ c, dropO 30 (bodyOf Tryz.f42) = some c ∧ W Tryz.prog 227 c (fin Tryz.prog Tryz.f42 (Ret fun v w' => v = .bool (decide (t = u)) ∧ Ext w0 w')) []
      [(5, .pointer (some ⟨b2, 0, none⟩)), (8, .bool false), (12, (.iface 56 (.pointer (some ⟨bx, 0, none⟩)))), (13, (.iface 58 (.pointer (some ⟨b, 0, none⟩)))), (14, .pointer none), (16, .pointer (some ⟨b5, 0, none⟩))] w := by
  cases hx with
  | slice hcx hex =>
  cases hy with
  | array h0 hcy hey =>
  refine ⟨_, rfl, ?_⟩
  (repeat (first
      | (guard_target =~ gU _; first
          | (guard_target =~ gU []; first | refine WU.nilk ?_ | refine WU.nil ?_)
          | refine WU.yld rfl rfl rfl (by first | (guard_target =~ gY (.move _); exact ze rfl) | (guard_target =~ gY (.assign _); exact yf rfl) | (guard_target =~ gY (.load _ _); first | exact za rfl rfl | exact zb rfl) | (guard_target =~ gY (.fieldAddr _ _ _); exact yt rfl) | (guard_target =~ gY (.nilCheck _); first | exact zq rfl | exact zr rfl) | (guard_target =~ gY (.extract _ _); exact ys rfl rfl) | (guard_target =~ gY (.typeAssert _ _ _ true); first | exact ye rfl rfl | exact yd rfl rfl (by first | rfl | assumption) | exact yc rfl rfl) | (guard_target =~ gY (.typeAssert _ _ _ false); exact yb rfl rfl) | (guard_target =~ gY (.makeInterface _ _); exact zd rfl rfl) | (guard_target =~ gY (.pick _ _ _); first | exact zv rfl rfl | exact zu rfl rfl | exact zt rfl rfl rfl) | (guard_target =~ gY (.binOp .neq _ _ _ _); first | exact zj rfl rfl | exact zn rfl rfl | exact zm rfl rfl | exact zg rfl rfl | exact zh rfl rfl | exact zl rfl rfl | exact zf rfl rfl | exact zp rfl rfl | exact zk rfl rfl | exact zo rfl rfl | exact zi (by first | decide | assumption) rfl rfl) | (guard_target =~ gY (.binOp .eql _ _ _ _); first | exact yl rfl rfl | exact yp rfl rfl | exact yo rfl rfl | exact yi rfl rfl | exact yj rfl rfl | exact yn rfl rfl | exact yh rfl rfl | exact yr rfl rfl | exact ym rfl rfl | exact yq rfl rfl | exact yk (by first | decide | assumption) rfl rfl) | (guard_target =~ gY (.unOp .not _ _); exact zs rfl) | (guard_target =~ gY (.binOp .lss _ _ _ _); exact zc rfl rfl) | (guard_target =~ gY (.binOp .leq _ _ _ _); exact yz rfl rfl) | (guard_target =~ gY (.binOp .gtr _ _ _ _); exact yv rfl rfl) | (guard_target =~ gY (.binOp .geq _ _ _ _); exact yu rfl rfl) | (guard_target =~ gY (.binOp .add _ _ _ _); exact ya rfl rfl (by omega)) | (guard_target =~ gY (.binOp .sub _ _ _ _); exact zw rfl rfl (by omega)) | (guard_target =~ gY (.call _); first | exact yx rfl | exact yy rfl) | (guard_target =~ gY (.build _ _); exact yg rfl rfl) | (guard_target =~ gY (.indexAddr _ _ _); exact yw rfl rfl (by omega) (by omega))) ?_
          | refine WU.skip rfl rfl rfl ?_)
      | (guard_target =~ gW (.seq _ _); refine W.seq ?_)
      | (guard_target =~ gW (.region _ _ false); refine W.reg ?_)
      | (guard_target =~ gW (.cond _ _ _); first | refine W.cond_t rfl ?_ | refine W.cond_f rfl ?_)
      | (guard_target =~ gW (.block _ _); refine W.block ?_)
      | (guard_target =~ gW .skip; refine W.skip ?_)
      | (guard_target =~ gW (.exit _); refine W.exit ?_)
      | (guard_target =~ gW .ret; refine W.ret ?_)
      | (guard_target =~ gT .normal; refine thn_normal ?_)
      | (guard_target =~ gT (.exit _); refine thn_exit ?_)
      | (guard_target =~ gT .ret; refine thn_ret ?_)
      | (guard_target =~ gI .normal; refine inb_normal ?_)
      | (guard_target =~ gI (.exit _); first | refine inb_hit ?_ | refine inb_miss rfl ?_)
      | (guard_target =~ gI .ret; refine inb_ret ?_)))
  refine WU.stp rfl rfl rfl (stp_call rfl (c_ElemSlice hcx)) ?_
  rintro _ w2 ⟨rfl, rfl⟩
  (repeat (first
      | (guard_target =~ gU _; first
          | (guard_target =~ gU []; first | refine WU.nilk ?_ | refine WU.nil ?_)
          | refine WU.yld rfl rfl rfl (by first | (guard_target =~ gY (.move _); exact ze rfl) | (guard_target =~ gY (.assign _); exact yf rfl) | (guard_target =~ gY (.load _ _); first | exact za rfl rfl | exact zb rfl) | (guard_target =~ gY (.fieldAddr _ _ _); exact yt rfl) | (guard_target =~ gY (.nilCheck _); first | exact zq rfl | exact zr rfl) | (guard_target =~ gY (.extract _ _); exact ys rfl rfl) | (guard_target =~ gY (.typeAssert _ _ _ true); first | exact ye rfl rfl | exact yd rfl rfl (by first | rfl | assumption) | exact yc rfl rfl) | (guard_target =~ gY (.typeAssert _ _ _ false); exact yb rfl rfl) | (guard_target =~ gY (.makeInterface _ _); exact zd rfl rfl) | (guard_target =~ gY (.pick _ _ _); first | exact zv rfl rfl | exact zu rfl rfl | exact zt rfl rfl rfl) | (guard_target =~ gY (.binOp .neq _ _ _ _); first | exact zj rfl rfl | exact zn rfl rfl | exact zm rfl rfl | exact zg rfl rfl | exact zh rfl rfl | exact zl rfl rfl | exact zf rfl rfl | exact zp rfl rfl | exact zk rfl rfl | exact zo rfl rfl | exact zi (by first | decide | assumption) rfl rfl) | (guard_target =~ gY (.binOp .eql _ _ _ _); first | exact yl rfl rfl | exact yp rfl rfl | exact yo rfl rfl | exact yi rfl rfl | exact yj rfl rfl | exact yn rfl rfl | exact yh rfl rfl | exact yr rfl rfl | exact ym rfl rfl | exact yq rfl rfl | exact yk (by first | decide | assumption) rfl rfl) | (guard_target =~ gY (.unOp .not _ _); exact zs rfl) | (guard_target =~ gY (.binOp .lss _ _ _ _); exact zc rfl rfl) | (guard_target =~ gY (.binOp .leq _ _ _ _); exact yz rfl rfl) | (guard_target =~ gY (.binOp .gtr _ _ _ _); exact yv rfl rfl) | (guard_target =~ gY (.binOp .geq _ _ _ _); exact yu rfl rfl) | (guard_target =~ gY (.binOp .add _ _ _ _); exact ya rfl rfl (by omega)) | (guard_target =~ gY (.binOp .sub _ _ _ _); exact zw rfl rfl (by omega)) | (guard_target =~ gY (.call _); first | exact yx rfl | exact yy rfl) | (guard_target =~ gY (.build _ _); exact yg rfl rfl) | (guard_target =~ gY (.indexAddr _ _ _); exact yw rfl rfl (by omega) (by omega))) ?_
          | refine WU.skip rfl rfl rfl ?_)
      | (guard_target =~ gW (.seq _ _); refine W.seq ?_)
      | (guard_target =~ gW (.region _ _ false); refine W.reg ?_)
      | (guard_target =~ gW (.cond _ _ _); first | refine W.cond_t rfl ?_ | refine W.cond_f rfl ?_)
      | (guard_target =~ gW (.block _ _); refine W.block ?_)
      | (guard_target =~ gW .skip; refine W.skip ?_)
      | (guard_target =~ gW (.exit _); refine W.exit ?_)
      | (guard_target =~ gW .ret; refine W.ret ?_)
      | (guard_target =~ gT .normal; refine thn_normal ?_)
      | (guard_target =~ gT (.exit _); refine thn_exit ?_)
      | (guard_target =~ gT .ret; refine thn_ret ?_)
      | (guard_target =~ gI .normal; refine inb_normal ?_)
      | (guard_target =~ gI (.exit _); first | refine inb_hit ?_ | refine inb_miss rfl ?_)
      | (guard_target =~ gI .ret; refine inb_ret ?_)))
  refine WU.stp rfl rfl rfl (stp_call rfl (c_ElemArray hcy)) ?_
  rintro _ w2 ⟨rfl, rfl⟩
  refine WU.stp rfl rfl rfl (stp_call rfl (c_Identical hex hey)) ?_
  rintro _ w3 ⟨rfl, x3⟩
  by_cases htu : t = u
  · rw [decide_eq_true htu]
    (repeat (first
        | (guard_target =~ gU _; first
            | (guard_target =~ gU []; first | refine WU.nilk ?_ | refine WU.nil ?_)
            | refine WU.yld rfl rfl rfl (by first | (guard_target =~ gY (.move _); exact ze rfl) | (guard_target =~ gY (.assign _); exact yf rfl) | (guard_target =~ gY (.load _ _); first | exact za rfl rfl | exact zb rfl) | (guard_target =~ gY (.fieldAddr _ _ _); exact yt rfl) | (guard_target =~ gY (.nilCheck _); first | exact zq rfl | exact zr rfl) | (guard_target =~ gY (.extract _ _); exact ys rfl rfl) | (guard_target =~ gY (.typeAssert _ _ _ true); first | exact ye rfl rfl | exact yd rfl rfl (by first | rfl | assumption) | exact yc rfl rfl) | (guard_target =~ gY (.typeAssert _ _ _ false); exact yb rfl rfl) | (guard_target =~ gY (.makeInterface _ _); exact zd rfl rfl) | (guard_target =~ gY (.pick _ _ _); first | exact zv rfl rfl | exact zu rfl rfl | exact zt rfl rfl rfl) | (guard_target =~ gY (.binOp .neq _ _ _ _); first | exact zj rfl rfl | exact zn rfl rfl | exact zm rfl rfl | exact zg rfl rfl | exact zh rfl rfl | exact zl rfl rfl | exact zf rfl rfl | exact zp rfl rfl | exact zk rfl rfl | exact zo rfl rfl | exact zi (by first | decide | assumption) rfl rfl) | (guard_target =~ gY (.binOp .eql _ _ _ _); first | exact yl rfl rfl | exact yp rfl rfl | exact yo rfl rfl | exact yi rfl rfl | exact yj rfl rfl | exact yn rfl rfl | exact yh rfl rfl | exact yr rfl rfl | exact ym rfl rfl | exact yq rfl rfl | exact yk (by first | decide | assumption) rfl rfl) | (guard_target =~ gY (.unOp .not _ _); exact zs rfl) | (guard_target =~ gY (.binOp .lss _ _ _ _); exact zc rfl rfl) | (guard_target =~ gY (.binOp .leq _ _ _ _); exact yz rfl rfl) | (guard_target =~ gY (.binOp .gtr _ _ _ _); exact yv rfl rfl) | (guard_target =~ gY (.binOp .geq _ _ _ _); exact yu rfl rfl) | (guard_target =~ gY (.binOp .add _ _ _ _); exact ya rfl rfl (by omega)) | (guard_target =~ gY (.binOp .sub _ _ _ _); exact zw rfl rfl (by omega)) | (guard_target =~ gY (.call _); first | exact yx rfl | exact yy rfl) | (guard_target =~ gY (.build _ _); exact yg rfl rfl) | (guard_target =~ gY (.indexAddr _ _ _); exact yw rfl rfl (by omega) (by omega))) ?_
            | refine WU.skip rfl rfl rfl ?_)
        | (guard_target =~ gW (.seq _ _); refine W.seq ?_)
        | (guard_target =~ gW (.region _ _ false); refine W.reg ?_)
        | (guard_target =~ gW (.cond _ _ _); first | refine W.cond_t rfl ?_ | refine W.cond_f rfl ?_)
        | (guard_target =~ gW (.block _ _); refine W.block ?_)
        | (guard_target =~ gW .skip; refine W.skip ?_)
        | (guard_target =~ gW (.exit _); refine W.exit ?_)
        | (guard_target =~ gW .ret; refine W.ret ?_)
        | (guard_target =~ gT .normal; refine thn_normal ?_)
        | (guard_target =~ gT (.exit _); refine thn_exit ?_)
        | (guard_target =~ gT .ret; refine thn_ret ?_)
        | (guard_target =~ gI .normal; refine inb_normal ?_)
        | (guard_target =~ gI (.exit _); first | refine inb_hit ?_ | refine inb_miss rfl ?_)
        | (guard_target =~ gI .ret; refine inb_ret ?_)))
    exact fin1 (.inl rfl) rfl rfl ⟨rfl, hw.trans x3⟩
  · rw [decide_eq_false htu]
    (repeat (first
        | (guard_target =~ gU _; first
            | (guard_target =~ gU []; first | refine WU.nilk ?_ | refine WU.nil ?_)
            | refine WU.yld rfl rfl rfl (by first | (guard_target =~ gY (.move _); exact ze rfl) | (guard_target =~ gY (.assign _); exact yf rfl) | (guard_target =~ gY (.load _ _); first | exact za rfl rfl | exact zb rfl) | (guard_target =~ gY (.fieldAddr _ _ _); exact yt rfl) | (guard_target =~ gY (.nilCheck _); first | exact zq rfl | exact zr rfl) | (guard_target =~ gY (.extract _ _); exact ys rfl rfl) | (guard_target =~ gY (.typeAssert _ _ _ true); first | exact ye rfl rfl | exact yd rfl rfl (by first | rfl | assumption) | exact yc rfl rfl) | (guard_target =~ gY (.typeAssert _ _ _ false); exact yb rfl rfl) | (guard_target =~ gY (.makeInterface _ _); exact zd rfl rfl) | (guard_target =~ gY (.pick _ _ _); first | exact zv rfl rfl | exact zu rfl rfl | exact zt rfl rfl rfl) | (guard_target =~ gY (.binOp .neq _ _ _ _); first | exact zj rfl rfl | exact zn rfl rfl | exact zm rfl rfl | exact zg rfl rfl | exact zh rfl rfl | exact zl rfl rfl | exact zf rfl rfl | exact zp rfl rfl | exact zk rfl rfl | exact zo rfl rfl | exact zi (by first | decide | assumption) rfl rfl) | (guard_target =~ gY (.binOp .eql _ _ _ _); first | exact yl rfl rfl | exact yp rfl rfl | exact yo rfl rfl | exact yi rfl rfl | exact yj rfl rfl | exact yn rfl rfl | exact yh rfl rfl | exact yr rfl rfl | exact ym rfl rfl | exact yq rfl rfl | exact yk (by first | decide | assumption) rfl rfl) | (guard_target =~ gY (.unOp .not _ _); exact zs rfl) | (guard_target =~ gY (.binOp .lss _ _ _ _); exact zc rfl rfl) | (guard_target =~ gY (.binOp .leq _ _ _ _); exact yz rfl rfl) | (guard_target =~ gY (.binOp .gtr _ _ _ _); exact yv rfl rfl) | (guard_target =~ gY (.binOp .geq _ _ _ _); exact yu rfl rfl) | (guard_target =~ gY (.binOp .add _ _ _ _); exact ya rfl rfl (by omega)) | (guard_target =~ gY (.binOp .sub _ _ _ _); exact zw rfl rfl (by omega)) | (guard_target =~ gY (.call _); first | exact yx rfl | exact yy rfl) | (guard_target =~ gY (.build _ _); exact yg rfl rfl) | (guard_target =~ gY (.indexAddr _ _ _); exact yw rfl rfl (by omega) (by omega))) ?_
            | refine WU.skip rfl rfl rfl ?_)
        | (guard_target =~ gW (.seq _ _); refine W.seq ?_)
        | (guard_target =~ gW (.region _ _ false); refine W.reg ?_)
        | (guard_target =~ gW (.cond _ _ _); first | refine W.cond_t rfl ?_ | refine W.cond_f rfl ?_)
        | (guard_target =~ gW (.block _ _); refine W.block ?_)
        | (guard_target =~ gW .skip; refine W.skip ?_)
        | (guard_target =~ gW (.exit _); refine W.exit ?_)
        | (guard_target =~ gW .ret; refine W.ret ?_)
        | (guard_target =~ gT .normal; refine thn_normal ?_)
        | (guard_target =~ gT (.exit _); refine thn_exit ?_)
        | (guard_target =~ gT .ret; refine thn_ret ?_)
        | (guard_target =~ gI .normal; refine inb_normal ?_)
        | (guard_target =~ gI (.exit _); first | refine inb_hit ?_ | refine inb_miss rfl ?_)
        | (guard_target =~ gI .ret; refine inb_ret ?_)))
    exact fin1 (.inl rfl) rfl rfl ⟨rfl, hw.trans x3⟩

set_option maxHeartbeats 1000000 in
theorem t2_ptr_arr {t u : GT} {m : Int} {bx b b2 b5 : Nat} {w0 w : World} (hx : Rep w (.iface 56 (.pointer (some ⟨bx, 0, none⟩))) (.slice t)) (hy : Rep w (.iface 54 (.pointer (some ⟨b, 0, none⟩))) (.ptr (.array m u))) (hw : Ext w0 w) (h2 : Has w b2 (.cells #[.pointer none] 155)) (h5 : Has w b5 (.cells #[.pointer none] 146)) :
    ∃ c, dropO 30 (bodyOf Tryz.f42) = some c ∧ W Tryz.prog 227 c (fin Tryz.prog Tryz.f42 (Ret fun v w' => v = .bool (decide (t = u)) ∧ Ext w0 w')) []
      [(5, .pointer (some ⟨b2, 0, none⟩)), (8, .bool false), (12, (.iface 56 (.pointer (some ⟨bx, 0, none⟩)))), (13, (.iface 54 (.pointer (some ⟨b, 0, none⟩)))), (14, .pointer none), (16, .pointer (some ⟨b5, 0, none⟩))] w := by
  cases hx with
  | slice hcx hex =>
  cases hy with
  | ptr hcy hey =>
  obtain ⟨be, rfl, hpe⟩ := hey.shape
  have hey' := hey
  cases hey with
  | array h0 hca hea =>
  refine ⟨_, rfl, ?_⟩
  (repeat (first
      | (guard_target =~ gU _; first
          | (guard_target =~ gU []; first | refine WU.nilk ?_ | refine WU.nil ?_)
          | refine WU.yld rfl rfl rfl (by first | (guard_target =~ gY (.move _); exact ze rfl) | (guard_target =~ gY (.assign _); exact yf rfl) | (guard_target =~ gY (.load _ _); first | exact za rfl rfl | exact zb rfl) | (guard_target =~ gY (.fieldAddr _ _ _); exact yt rfl) | (guard_target =~ gY (.nilCheck _); first | exact zq rfl | exact zr rfl) | (guard_target =~ gY (.extract _ _); exact ys rfl rfl) | (guard_target =~ gY (.typeAssert _ _ _ true); first | exact ye rfl rfl | exact yd rfl rfl (by first | rfl | assumption) | exact yc rfl rfl) | (guard_target =~ gY (.typeAssert _ _ _ false); exact yb rfl rfl) | (guard_target =~ gY (.makeInterface _ _); exact zd rfl rfl) | (guard_target =~ gY (.pick _ _ _); first | exact zv rfl rfl | exact zu rfl rfl | exact zt rfl rfl rfl) | (guard_target =~ gY (.binOp .neq _ _ _ _); first | exact zj rfl rfl | exact zn rfl rfl | exact zm rfl rfl | exact zg rfl rfl | exact zh rfl rfl | exact zl rfl rfl | exact zf rfl rfl | exact zp rfl rfl | exact zk rfl rfl | exact zo rfl rfl | exact zi (by first | decide | assumption) rfl rfl) | (guard_target =~ gY (.binOp .eql _ _ _ _); first | exact yl rfl rfl | exact yp rfl rfl | exact yo rfl rfl | exact yi rfl rfl | exact yj rfl rfl | exact yn rfl rfl | exact yh rfl rfl | exact yr rfl rfl | exact ym rfl rfl | exact yq rfl rfl | exact yk (by first | decide | assumption) rfl rfl) | (guard_target =~ gY (.unOp .not _ _); exact zs rfl) | (guard_target =~ gY (.binOp .lss _ _ _ _); exact zc rfl rfl) | (guard_target =~ gY (.binOp .leq _ _ _ _); exact yz rfl rfl) | (guard_target =~ gY (.binOp .gtr _ _ _ _); exact yv rfl rfl) | (guard_target =~ gY (.binOp .geq _ _ _ _); exact yu rfl rfl) | (guard_target =~ gY (.binOp .add _ _ _ _); exact ya rfl rfl (by omega)) | (guard_target =~ gY (.binOp .sub _ _ _ _); exact zw rfl rfl (by omega)) | (guard_target =~ gY (.call _); first | exact yx rfl | exact yy rfl) | (guard_target =~ gY (.build _ _); exact yg rfl rfl) | (guard_target =~ gY (.indexAddr _ _ _); exact yw rfl rfl (by omega) (by omega))) ?_
          | refine WU.skip rfl rfl rfl ?_)
      | (guard_target =~ gW (.seq _ _); refine W.seq ?_)
      | (guard_target =~ gW (.region _ _ false); refine W.reg ?_)
      | (guard_target =~ gW (.cond _ _ _); first | refine W.cond_t rfl ?_ | refine W.cond_f rfl ?_)
      | (guard_target =~ gW (.block _ _); refine W.block ?_)
      | (guard_target =~ gW .skip; refine W.skip ?_)
      | (guard_target =~ gW (.exit _); refine W.exit ?_)
      | (guard_target =~ gW .ret; refine W.ret ?_)
      | (guard_target =~ gT .normal; refine thn_normal ?_)
      | (guard_target =~ gT (.exit _); refine thn_exit ?_)
      | (guard_target =~ gT .ret; refine thn_ret ?_)
      | (guard_target =~ gI .normal; refine inb_normal ?_)
      | (guard_target =~ gI (.exit _); first | refine inb_hit ?_ | refine inb_miss rfl ?_)
      | (guard_target =~ gI .ret; refine inb_ret ?_)))
  refine WU.stp rfl rfl rfl (stp_call rfl (c_ElemPointer hcy)) ?_
  rintro _ w2 ⟨rfl, rfl⟩
  refine WU.stp rfl rfl rfl (stp_und hey' rfl) ?_
  rintro _ w2 ⟨rfl, rfl⟩
  (repeat (first
      | (guard_target =~ gU _; first
          | (guard_target =~ gU []; first | refine WU.nilk ?_ | refine WU.nil ?_)
          | refine WU.yld rfl rfl rfl (by first | (guard_target =~ gY (.move _); exact ze rfl) | (guard_target =~ gY (.assign _); exact yf rfl) | (guard_target =~ gY (.load _ _); first | exact za rfl rfl | exact zb rfl) | (guard_target =~ gY (.fieldAddr _ _ _); exact yt rfl) | (guard_target =~ gY (.nilCheck _); first | exact zq rfl | exact zr rfl) | (guard_target =~ gY (.extract _ _); exact ys rfl rfl) | (guard_target =~ gY (.typeAssert _ _ _ true); first | exact ye rfl rfl | exact yd rfl rfl (by first | rfl | assumption) | exact yc rfl rfl) | (guard_target =~ gY (.typeAssert _ _ _ false); exact yb rfl rfl) | (guard_target =~ gY (.makeInterface _ _); exact zd rfl rfl) | (guard_target =~ gY (.pick _ _ _); first | exact zv rfl rfl | exact zu rfl rfl | exact zt rfl rfl rfl) | (guard_target =~ gY (.binOp .neq _ _ _ _); first | exact zj rfl rfl | exact zn rfl rfl | exact zm rfl rfl | exact zg rfl rfl | exact zh rfl rfl | exact zl rfl rfl | exact zf rfl rfl | exact zp rfl rfl | exact zk rfl rfl | exact zo rfl rfl | exact zi (by first | decide | assumption) rfl rfl) | (guard_target =~ gY (.binOp .eql _ _ _ _); first | exact yl rfl rfl | exact yp rfl rfl | exact yo rfl rfl | exact yi rfl rfl | exact yj rfl rfl | exact yn rfl rfl | exact yh rfl rfl | exact yr rfl rfl | exact ym rfl rfl | exact yq rfl rfl | exact yk (by first | decide | assumption) rfl rfl) | (guard_target =~ gY (.unOp .not _ _); exact zs rfl) | (guard_target =~ gY (.binOp .lss _ _ _ _); exact zc rfl rfl) | (guard_target =~ gY (.binOp .leq _ _ _ _); exact yz rfl rfl) | (guard_target =~ gY (.binOp .gtr _ _ _ _); exact yv rfl rfl) | (guard_target =~ gY (.binOp .geq _ _ _ _); exact yu rfl rfl) | (guard_target =~ gY (.binOp .add _ _ _ _); exact ya rfl rfl (by omega)) | (guard_target =~ gY (.binOp .sub _ _ _ _); exact zw rfl rfl (by omega)) | (guard_target =~ gY (.call _); first | exact yx rfl | exact yy rfl) | (guard_target =~ gY (.build _ _); exact yg rfl rfl) | (guard_target =~ gY (.indexAddr _ _ _); exact yw rfl rfl (by omega) (by omega))) ?_
          | refine WU.skip rfl rfl rfl ?_)
      | (guard_target =~ gW (.seq _ _); refine W.seq ?_)
      | (guard_target =~ gW (.region _ _ false); refine W.reg ?_)
      | (guard_target =~ gW (.cond _ _ _); first | refine W.cond_t rfl ?_ | refine W.cond_f rfl ?_)
      | (guard_target =~ gW (.block _ _); refine W.block ?_)
      | (guard_target =~ gW .skip; refine W.skip ?_)
      | (guard_target =~ gW (.exit _); refine W.exit ?_)
      | (guard_target =~ gW .ret; refine W.ret ?_)
      | (guard_target =~ gT .normal; refine thn_normal ?_)
      | (guard_target =~ gT (.exit _); refine thn_exit ?_)
      | (guard_target =~ gT .ret; refine thn_ret ?_)
      | (guard_target =~ gI .normal; refine inb_normal ?_)
      | (guard_target =~ gI (.exit _); first | refine inb_hit ?_ | refine inb_miss rfl ?_)
      | (guard_target =~ gI .ret; refine inb_ret ?_)))
  refine WU.stp rfl rfl rfl (stp_call rfl (c_ElemSlice hcx)) ?_
  rintro _ w2 ⟨rfl, rfl⟩
  (repeat (first
      | (guard_target =~ gU _; first
          | (guard_target =~ gU []; first | refine WU.nilk ?_ | refine WU.nil ?_)
          | refine WU.yld rfl rfl rfl (by first | (guard_target =~ gY (.move _); exact ze rfl) | (guard_target =~ gY (.assign _); exact yf rfl) | (guard_target =~ gY (.load _ _); first | exact za rfl rfl | exact zb rfl) | (guard_target =~ gY (.fieldAddr _ _ _); exact yt rfl) | (guard_target =~ gY (.nilCheck _); first | exact zq rfl | exact zr rfl) | (guard_target =~ gY (.extract _ _); exact ys rfl rfl) | (guard_target =~ gY (.typeAssert _ _ _ true); first | exact ye rfl rfl | exact yd rfl rfl (by first | rfl | assumption) | exact yc rfl rfl) | (guard_target =~ gY (.typeAssert _ _ _ false); exact yb rfl rfl) | (guard_target =~ gY (.makeInterface _ _); exact zd rfl rfl) | (guard_target =~ gY (.pick _ _ _); first | exact zv rfl rfl | exact zu rfl rfl | exact zt rfl rfl rfl) | (guard_target =~ gY (.binOp .neq _ _ _ _); first | exact zj rfl rfl | exact zn rfl rfl | exact zm rfl rfl | exact zg rfl rfl | exact zh rfl rfl | exact zl rfl rfl | exact zf rfl rfl | exact zp rfl rfl | exact zk rfl rfl | exact zo rfl rfl | exact zi (by first | decide | assumption) rfl rfl) | (guard_target =~ gY (.binOp .eql _ _ _ _); first | exact yl rfl rfl | exact yp rfl rfl | exact yo rfl rfl | exact yi rfl rfl | exact yj rfl rfl | exact yn rfl rfl | exact yh rfl rfl | exact yr rfl rfl | exact ym rfl rfl | exact yq rfl rfl | exact yk (by first | decide | assumption) rfl rfl) | (guard_target =~ gY (.unOp .not _ _); exact zs rfl) | (guard_target =~ gY (.binOp .lss _ _ _ _); exact zc rfl rfl) | (guard_target =~ gY (.binOp .leq _ _ _ _); exact yz rfl rfl) | (guard_target =~ gY (.binOp .gtr _ _ _ _); exact yv rfl rfl) | (guard_target =~ gY (.binOp .geq _ _ _ _); exact yu rfl rfl) | (guard_target =~ gY (.binOp .add _ _ _ _); exact ya rfl rfl (by omega)) | (guard_target =~ gY (.binOp .sub _ _ _ _); exact zw rfl rfl (by omega)) | (guard_target =~ gY (.call _); first | exact yx rfl | exact yy rfl) | (guard_target =~ gY (.build _ _); exact yg rfl rfl) | (guard_target =~ gY (.indexAddr _ _ _); exact yw rfl rfl (by omega) (by omega))) ?_
          | refine WU.skip rfl rfl rfl ?_)
      | (guard_target =~ gW (.seq _ _); refine W.seq ?_)
      | (guard_target =~ gW (.region _ _ false); refine W.reg ?_)
      | (guard_target =~ gW (.cond _ _ _); first | refine W.cond_t rfl ?_ | refine W.cond_f rfl ?_)
      | (guard_target =~ gW (.block _ _); refine W.block ?_)
      | (guard_target =~ gW .skip; refine W.skip ?_)
      | (guard_target =~ gW (.exit _); refine W.exit ?_)
      | (guard_target =~ gW .ret; refine W.ret ?_)
      | (guard_target =~ gT .normal; refine thn_normal ?_)
      | (guard_target =~ gT (.exit _); refine thn_exit ?_)
      | (guard_target =~ gT .ret; refine thn_ret ?_)
      | (guard_target =~ gI .normal; refine inb_normal ?_)
      | (guard_target =~ gI (.exit _); first | refine inb_hit ?_ | refine inb_miss rfl ?_)
      | (guard_target =~ gI .ret; refine inb_ret ?_)))
  refine WU.stp rfl rfl rfl (stp_call rfl (c_ElemArray hca)) ?_
  rintro _ w2 ⟨rfl, rfl⟩
  refine WU.stp rfl rfl rfl (stp_call rfl (c_Identical hex hea)) ?_
  rintro _ w3 ⟨rfl, x3⟩
  by_cases htu : t = u
  · rw [decide_eq_true htu]
    (repeat (first
        | (guard_target =~ gU _; first
            | (guard_target =~ gU []; first | refine WU.nilk ?_ | refine WU.nil ?_)
            | refine WU.yld rfl rfl rfl (by first | (guard_target =~ gY (.move _); exact ze rfl) | (guard_target =~ gY (.assign _); exact yf rfl) | (guard_target =~ gY (.load _ _); first | exact za rfl rfl | exact zb rfl) | (guard_target =~ gY (.fieldAddr _ _ _); exact yt rfl) | (guard_target =~ gY (.nilCheck _); first | exact zq rfl | exact zr rfl) | (guard_target =~ gY (.extract _ _); exact ys rfl rfl) | (guard_target =~ gY (.typeAssert _ _ _ true); first | exact ye rfl rfl | exact yd rfl rfl (by first | rfl | assumption) | exact yc rfl rfl) | (guard_target =~ gY (.typeAssert _ _ _ false); exact yb rfl rfl) | (guard_target =~ gY (.makeInterface _ _); exact zd rfl rfl) | (guard_target =~ gY (.pick _ _ _); first | exact zv rfl rfl | exact zu rfl rfl | exact zt rfl rfl rfl) | (guard_target =~ gY (.binOp .neq _ _ _ _); first | exact zj rfl rfl | exact zn rfl rfl | exact zm rfl rfl | exact zg rfl rfl | exact zh rfl rfl | exact zl rfl rfl | exact zf rfl rfl | exact zp rfl rfl | exact zk rfl rfl | exact zo rfl rfl | exact zi (by first | decide | assumption) rfl rfl) | (guard_target =~ gY (.binOp .eql _ _ _ _); first | exact yl rfl rfl | exact yp rfl rfl | exact yo rfl rfl | exact yi rfl rfl | exact yj rfl rfl | exact yn rfl rfl | exact yh rfl rfl | exact yr rfl rfl | exact ym rfl rfl | exact yq rfl rfl | exact yk (by first | decide | assumption) rfl rfl) | (guard_target =~ gY (.unOp .not _ _); exact zs rfl) | (guard_target =~ gY (.binOp .lss _ _ _ _); exact zc rfl rfl) | (guard_target =~ gY (.binOp .leq _ _ _ _); exact yz rfl rfl) | (guard_target =~ gY (.binOp .gtr _ _ _ _); exact yv rfl rfl) | (guard_target =~ gY (.binOp .geq _ _ _ _); exact yu rfl rfl) | (guard_target =~ gY (.binOp .add _ _ _ _); exact ya rfl rfl (by omega)) | (guard_target =~ gY (.binOp .sub _ _ _ _); exact zw rfl rfl (by omega)) | (guard_target =~ gY (.call _); first | exact yx rfl | exact yy rfl) | (guard_target =~ gY (.build _ _); exact yg rfl rfl) | (guard_target =~ gY (.indexAddr _ _ _); exact yw rfl rfl (by omega) (by omega))) ?_
            | refine WU.skip rfl rfl rfl ?_)
        | (guard_target =~ gW (.seq _ _); refine W.seq ?_)
        | (guard_target =~ gW (.region _ _ false); refine W.reg ?_)
        | (guard_target =~ gW (.cond _ _ _); first | refine W.cond_t rfl ?_ | refine W.cond_f rfl ?_)
        | (guard_target =~ gW (.block _ _); refine W.block ?_)
        | (guard_target =~ gW .skip; refine W.skip ?_)
        | (guard_target =~ gW (.exit _); refine W.exit ?_)
        | (guard_target =~ gW .ret; refine W.ret ?_)
        | (guard_target =~ gT .normal; refine thn_normal ?_)
        | (guard_target =~ gT (.exit _); refine thn_exit ?_)
        | (guard_target =~ gT .ret; refine thn_ret ?_)
        | (guard_target =~ gI .normal; refine inb_normal ?_)
        | (guard_target =~ gI (.exit _); first | refine inb_hit ?_ | refine inb_miss rfl ?_)
        | (guard_target =~ gI .ret; refine inb_ret ?_)))
    exact fin1 (.inl rfl) rfl rfl ⟨rfl, hw.trans x3⟩
  · rw [decide_eq_false htu]
    (repeat (first
        | (guard_target =~ gU _; first
            | (guard_target =~ gU []; first | refine WU.nilk ?_ | refine WU.nil ?_)
            | refine WU.yld rfl rfl rfl (by first | (guard_target =~ gY (.move _); exact ze rfl) | (guard_target =~ gY (.assign _); exact yf rfl) | (guard_target =~ gY (.load _ _); first | exact za rfl rfl | exact zb rfl) | (guard_target =~ gY (.fieldAddr _ _ _); exact yt rfl) | (guard_target =~ gY (.nilCheck _); first | exact zq rfl | exact zr rfl) | (guard_target =~ gY (.extract _ _); exact ys rfl rfl) | (guard_target =~ gY (.typeAssert _ _ _ true); first | exact ye rfl rfl | exact yd rfl rfl (by first | rfl | assumption) | exact yc rfl rfl) | (guard_target =~ gY (.typeAssert _ _ _ false); exact yb rfl rfl) | (guard_target =~ gY (.makeInterface _ _); exact zd rfl rfl) | (guard_target =~ gY (.pick _ _ _); first | exact zv rfl rfl | exact zu rfl rfl | exact zt rfl rfl rfl) | (guard_target =~ gY (.binOp .neq _ _ _ _); first | exact zj rfl rfl | exact zn rfl rfl | exact zm rfl rfl | exact zg rfl rfl | exact zh rfl rfl | exact zl rfl rfl | exact zf rfl rfl | exact zp rfl rfl | exact zk rfl rfl | exact zo rfl rfl | exact zi (by first | decide | assumption) rfl rfl) | (guard_target =~ gY (.binOp .eql _ _ _ _); first | exact yl rfl rfl | exact yp rfl rfl | exact yo rfl rfl | exact yi rfl rfl | exact yj rfl rfl | exact yn rfl rfl | exact yh rfl rfl | exact yr rfl rfl | exact ym rfl rfl | exact yq rfl rfl | exact yk (by first | decide | assumption) rfl rfl) | (guard_target =~ gY (.unOp .not _ _); exact zs rfl) | (guard_target =~ gY (.binOp .lss _ _ _ _); exact zc rfl rfl) | (guard_target =~ gY (.binOp .leq _ _ _ _); exact yz rfl rfl) | (guard_target =~ gY (.binOp .gtr _ _ _ _); exact yv rfl rfl) | (guard_target =~ gY (.binOp .geq _ _ _ _); exact yu rfl rfl) | (guard_target =~ gY (.binOp .add _ _ _ _); exact ya rfl rfl (by omega)) | (guard_target =~ gY (.binOp .sub _ _ _ _); exact zw rfl rfl (by omega)) | (guard_target =~ gY (.call _); first | exact yx rfl | exact yy rfl) | (guard_target =~ gY (.build _ _); exact yg rfl rfl) | (guard_target =~ gY (.indexAddr _ _ _); exact yw rfl rfl (by omega) (by omega))) ?_
            | refine WU.skip rfl rfl rfl ?_)
        | (guard_target =~ gW (.seq _ _); refine W.seq ?_)
        | (guard_target =~ gW (.region _ _ false); refine W.reg ?_)
        | (guard_target =~ gW (.cond _ _ _); first | refine W.cond_t rfl ?_ | refine W.cond_f rfl ?_)
        | (guard_target =~ gW (.block _ _); refine W.block ?_)
        | (guard_target =~ gW .skip; refine W.skip ?_)
        | (guard_target =~ gW (.exit _); refine W.exit ?_)
        | (guard_target =~ gW .ret; refine W.ret ?_)
        | (guard_target =~ gT .normal; refine thn_normal ?_)
        | (guard_target =~ gT (.exit _); refine thn_exit ?_)
        | (guard_target =~ gT .ret; refine thn_ret ?_)
        | (guard_target =~ gI .normal; refine inb_normal ?_)
        | (guard_target =~ gI (.exit _); first | refine inb_hit ?_ | refine inb_miss rfl ?_)
        | (guard_target =~ gI .ret; refine inb_ret ?_)))
    exact fin1 (.inl rfl) rfl rfl ⟨rfl, hw.trans x3⟩

set_option maxHeartbeats 1000000 in
theorem t2_ptr {t u : GT} {bx b b2 b5 : Nat} {w0 w : World} (hx : Rep w (.iface 56 (.pointer (some ⟨bx, 0, none⟩))) (.slice t)) (hy : Rep w (.iface 54 (.pointer (some ⟨b, 0, none⟩))) (.ptr u)) (hw : Ext w0 w) (h2 : Has w b2 (.cells #[.pointer none] 155)) (h5 : Has w b5 (.cells #[.pointer none] 146)) (hu : Nat.beq (tagOf u) 58 = false) :
    ∃ c, dropO 30 (bodyOf Tryz.f42) = some c ∧ W Tryz.prog 227 c (fin Tryz.prog Tryz.f42 (Ret fun v w' => v = .bool false ∧ Ext w0 w')) []
      [(5, .pointer (some ⟨b2, 0, none⟩)), (8, .bool false), (12, (.iface 56 (.pointer (some ⟨bx, 0, none⟩)))), (13, (.iface 54 (.pointer (some ⟨b, 0, none⟩)))), (14, .pointer none), (16, .pointer (some ⟨b5, 0, none⟩))] w := by
  cases hy with
  | ptr hcy hey =>
  obtain ⟨be, rfl, hpe⟩ := hey.shape
  refine ⟨_, rfl, ?_⟩
  (repeat (first
      | (guard_target =~ gU _; first
          | (guard_target =~ gU []; first | refine WU.nilk ?_ | refine WU.nil ?_)
          | refine WU.yld rfl rfl rfl (by first | (guard_target =~ gY (.move _); exact ze rfl) | (guard_target =~ gY (.assign _); exact yf rfl) | (guard_target =~ gY (.load _ _); first | exact za rfl rfl | exact zb rfl) | (guard_target =~ gY (.fieldAddr _ _ _); exact yt rfl) | (guard_target =~ gY (.nilCheck _); first | exact zq rfl | exact zr rfl) | (guard_target =~ gY (.extract _ _); exact ys rfl rfl) | (guard_target =~ gY (.typeAssert _ _ _ true); first | exact ye rfl rfl | exact yd rfl rfl (by first | rfl | assumption) | exact yc rfl rfl) | (guard_target =~ gY (.typeAssert _ _ _ false); exact yb rfl rfl) | (guard_target =~ gY (.makeInterface _ _); exact zd rfl rfl) | (guard_target =~ gY (.pick _ _ _); first | exact zv rfl rfl | exact zu rfl rfl | exact zt rfl rfl rfl) | (guard_target =~ gY (.binOp .neq _ _ _ _); first | exact zj rfl rfl | exact zn rfl rfl | exact zm rfl rfl | exact zg rfl rfl | exact zh rfl rfl | exact zl rfl rfl | exact zf rfl rfl | exact zp rfl rfl | exact zk rfl rfl | exact zo rfl rfl | exact zi (by first | decide | assumption) rfl rfl) | (guard_target =~ gY (.binOp .eql _ _ _ _); first | exact yl rfl rfl | exact yp rfl rfl | exact yo rfl rfl | exact yi rfl rfl | exact yj rfl rfl | exact yn rfl rfl | exact yh rfl rfl | exact yr rfl rfl | exact ym rfl rfl | exact yq rfl rfl | exact yk (by first | decide | assumption) rfl rfl) | (guard_target =~ gY (.unOp .not _ _); exact zs rfl) | (guard_target =~ gY (.binOp .lss _ _ _ _); exact zc rfl rfl) | (guard_target =~ gY (.binOp .leq _ _ _ _); exact yz rfl rfl) | (guard_target =~ gY (.binOp .gtr _ _ _ _); exact yv rfl rfl) | (guard_target =~ gY (.binOp .geq _ _ _ _); exact yu rfl rfl) | (guard_target =~ gY (.binOp .add _ _ _ _); exact ya rfl rfl (by omega)) | (guard_target =~ gY (.binOp .sub _ _ _ _); exact zw rfl rfl (by omega)) | (guard_target =~ gY (.call _); first | exact yx rfl | exact yy rfl) | (guard_target =~ gY (.build _ _); exact yg rfl rfl) | (guard_target =~ gY (.indexAddr _ _ _); exact yw rfl rfl (by omega) (by omega))) ?_
          | refine WU.skip rfl rfl rfl ?_)
      | (guard_target =~ gW (.seq _ _); refine W.seq ?_)
      | (guard_target =~ gW (.region _ _ false); refine W.reg ?_)
      | (guard_target =~ gW (.cond _ _ _); first | refine W.cond_t rfl ?_ | refine W.cond_f rfl ?_)
      | (guard_target =~ gW (.block _ _); refine W.block ?_)
      | (guard_target =~ gW .skip; refine W.skip ?_)
      | (guard_target =~ gW (.exit _); refine W.exit ?_)
      | (guard_target =~ gW .ret; refine W.ret ?_)
      | (guard_target =~ gT .normal; refine thn_normal ?_)
      | (guard_target =~ gT (.exit _); refine thn_exit ?_)
      | (guard_target =~ gT .ret; refine thn_ret ?_)
      | (guard_target =~ gI .normal; refine inb_normal ?_)
      | (guard_target =~ gI (.exit _); first | refine inb_hit ?_ | refine inb_miss rfl ?_)
      | (guard_target =~ gI .ret; refine inb_ret ?_)))
  refine WU.stp rfl rfl rfl (stp_call rfl (c_ElemPointer hcy)) ?_
  rintro _ w2 ⟨rfl, rfl⟩
  refine WU.stp rfl rfl rfl (stp_und hey rfl) ?_
  rintro _ w2 ⟨rfl, rfl⟩
  (repeat (first
      | (guard_target =~ gU _; first
          | (guard_target =~ gU []; first | refine WU.nilk ?_ | refine WU.nil ?_)
          | refine WU.yld rfl rfl rfl (by first | (guard_target =~ gY (.move _); exact ze rfl) | (guard_target =~ gY (.assign _); exact yf rfl) | (guard_target =~ gY (.load _ _); first | exact za rfl rfl | exact zb rfl) | (guard_target =~ gY (.fieldAddr _ _ _); exact yt rfl) | (guard_target =~ gY (.nilCheck _); first | exact zq rfl | exact zr rfl) | (guard_target =~ gY (.extract _ _); exact ys rfl rfl) | (guard_target =~ gY (.typeAssert _ _ _ true); first | exact ye rfl rfl | exact yd rfl rfl (by first | rfl | assumption) | exact yc rfl rfl) | (guard_target =~ gY (.typeAssert _ _ _ false); exact yb rfl rfl) | (guard_target =~ gY (.makeInterface _ _); exact zd rfl rfl) | (guard_target =~ gY (.pick _ _ _); first | exact zv rfl rfl | exact zu rfl rfl | exact zt rfl rfl rfl) | (guard_target =~ gY (.binOp .neq _ _ _ _); first | exact zj rfl rfl | exact zn rfl rfl | exact zm rfl rfl | exact zg rfl rfl | exact zh rfl rfl | exact zl rfl rfl | exact zf rfl rfl | exact zp rfl rfl | exact zk rfl rfl | exact zo rfl rfl | exact zi (by first | decide | assumption) rfl rfl) | (guard_target =~ gY (.binOp .eql _ _ _ _); first | exact yl rfl rfl | exact yp rfl rfl | exact yo rfl rfl | exact yi rfl rfl | exact yj rfl rfl | exact yn rfl rfl | exact yh rfl rfl | exact yr rfl rfl | exact ym rfl rfl | exact yq rfl rfl | exact yk (by first | decide | assumption) rfl rfl) | (guard_target =~ gY (.unOp .not _ _); exact zs rfl) | (guard_target =~ gY (.binOp .lss _ _ _ _); exact zc rfl rfl) | (guard_target =~ gY (.binOp .leq _ _ _ _); exact yz rfl rfl) | (guard_target =~ gY (.binOp .gtr _ _ _ _); exact yv rfl rfl) | (guard_target =~ gY (.binOp .geq _ _ _ _); exact yu rfl rfl) | (guard_target =~ gY (.binOp .add _ _ _ _); exact ya rfl rfl (by omega)) | (guard_target =~ gY (.binOp .sub _ _ _ _); exact zw rfl rfl (by omega)) | (guard_target =~ gY (.call _); first | exact yx rfl | exact yy rfl) | (guard_target =~ gY (.build _ _); exact yg rfl rfl) | (guard_target =~ gY (.indexAddr _ _ _); exact yw rfl rfl (by omega) (by omega))) ?_
          | refine WU.skip rfl rfl rfl ?_)
      | (guard_target =~ gW (.seq _ _); refine W.seq ?_)
      | (guard_target =~ gW (.region _ _ false); refine W.reg ?_)
      | (guard_target =~ gW (.cond _ _ _); first | refine W.cond_t rfl ?_ | refine W.cond_f rfl ?_)
      | (guard_target =~ gW (.block _ _); refine W.block ?_)
      | (guard_target =~ gW .skip; refine W.skip ?_)
      | (guard_target =~ gW (.exit _); refine W.exit ?_)
      | (guard_target =~ gW .ret; refine W.ret ?_)
      | (guard_target =~ gT .normal; refine thn_normal ?_)
      | (guard_target =~ gT (.exit _); refine thn_exit ?_)
      | (guard_target =~ gT .ret; refine thn_ret ?_)
      | (guard_target =~ gI .normal; refine inb_normal ?_)
      | (guard_target =~ gI (.exit _); first | refine inb_hit ?_ | refine inb_miss rfl ?_)
      | (guard_target =~ gI .ret; refine inb_ret ?_)))
  exact fin1 (.inl rfl) rfl rfl ⟨rfl, hw⟩

set_option maxHeartbeats 1000000 in
theorem t2_oth {t y : GT} {bx b b2 b5 : Nat} {w0 w : World} (hx : Rep w (.iface 56 (.pointer (some ⟨bx, 0, none⟩))) (.slice t)) (hw : Ext w0 w) (h2 : Has w b2 (.cells #[.pointer none] 155)) (h5 : Has w b5 (.cells #[.pointer none] 146)) (ha : Nat.beq (tagOf y) 58 = false) (hp : Nat.beq (tagOf y) 54 = false) :
    ∃ c, dropO 30 (bodyOf Tryz.f42) = some c ∧ W Tryz.prog 227 c (fin Tryz.prog Tryz.f42 (Ret fun v w' => v = .bool false ∧ Ext w0 w')) []
      [(5, .pointer (some ⟨b2, 0, none⟩)), (8, .bool false), (12, (.iface 56 (.pointer (some ⟨bx, 0, none⟩)))), (13, (.iface (tagOf y) (.pointer (some ⟨b, 0, none⟩)))), (14, .pointer none), (16, .pointer (some ⟨b5, 0, none⟩))] w := by
  refine ⟨_, rfl, ?_⟩
  (repeat (first
      | (guard_target =~ gU _; first
          | (guard_target =~ gU []; first | refine WU.nilk ?_ | refine WU.nil ?_)
          | refine WU.yld rfl rfl rfl (by first | (guard_target =~ gY (.move _); exact ze rfl) | (guard_target =~ gY (.assign _); exact yf rfl) | (guard_target =~ gY (.load _ _); first | exact za rfl rfl | exact zb rfl) | (guard_target =~ gY (.fieldAddr _ _ _); exact yt rfl) | (guard_target =~ gY (.nilCheck _); first | exact zq rfl | exact zr rfl) | (guard_target =~ gY (.extract _ _); exact ys rfl rfl) | (guard_target =~ gY (.typeAssert _ _ _ true); first | exact ye rfl rfl | exact yd rfl rfl (by first | rfl | assumption) | exact yc rfl rfl) | (guard_target =~ gY (.typeAssert _ _ _ false); exact yb rfl rfl) | (guard_target =~ gY (.makeInterface _ _); exact zd rfl rfl) | (guard_target =~ gY (.pick _ _ _); first | exact zv rfl rfl | exact zu rfl rfl | exact zt rfl rfl rfl) | (guard_target =~ gY (.binOp .neq _ _ _ _); first | exact zj rfl rfl | exact zn rfl rfl | exact zm rfl rfl | exact zg rfl rfl | exact zh rfl rfl | exact zl rfl rfl | exact zf rfl rfl | exact zp rfl rfl | exact zk rfl rfl | exact zo rfl rfl | exact zi (by first | decide | assumption) rfl rfl) | (guard_target =~ gY (.binOp .eql _ _ _ _); first | exact yl rfl rfl | exact yp rfl rfl | exact yo rfl rfl | exact yi rfl rfl | exact yj rfl rfl | exact yn rfl rfl | exact yh rfl rfl | exact yr rfl rfl | exact ym rfl rfl | exact yq rfl rfl | exact yk (by first | decide | assumption) rfl rfl) | (guard_target =~ gY (.unOp .not _ _); exact zs rfl) | (guard_target =~ gY (.binOp .lss _ _ _ _); exact zc rfl rfl) | (guard_target =~ gY (.binOp .leq _ _ _ _); exact yz rfl rfl) | (guard_target =~ gY (.binOp .gtr _ _ _ _); exact yv rfl rfl) | (guard_target =~ gY (.binOp .geq _ _ _ _); exact yu rfl rfl) | (guard_target =~ gY (.binOp .add _ _ _ _); exact ya rfl rfl (by omega)) | (guard_target =~ gY (.binOp .sub _ _ _ _); exact zw rfl rfl (by omega)) | (guard_target =~ gY (.call _); first | exact yx rfl | exact yy rfl) | (guard_target =~ gY (.build _ _); exact yg rfl rfl) | (guard_target =~ gY (.indexAddr _ _ _); exact yw rfl rfl (by omega) (by omega))) ?_
          | refine WU.skip rfl rfl rfl ?_)
      | (guard_target =~ gW (.seq _ _); refine W.seq ?_)
      | (guard_target =~ gW (.region _ _ false); refine W.reg ?_)
      | (guard_target =~ gW (.cond _ _ _); first | refine W.cond_t rfl ?_ | refine W.cond_f rfl ?_)
      | (guard_target =~ gW (.block _ _); refine W.block ?_)
      | (guard_target =~ gW .skip; refine W.skip ?_)
      | (guard_target =~ gW (.exit _); refine W.exit ?_)
      | (guard_target =~ gW .ret; refine W.ret ?_)
      | (guard_target =~ gT .normal; refine thn_normal ?_)
      | (guard_target =~ gT (.exit _); refine thn_exit ?_)
      | (guard_target =~ gT .ret; refine thn_ret ?_)
      | (guard_target =~ gI .normal; refine inb_normal ?_)
      | (guard_target =~ gI (.exit _); first | refine inb_hit ?_ | refine inb_miss rfl ?_)
      | (guard_target =~ gI .ret; refine inb_ret ?_)))
  exact fin1 (.inl rfl) rfl rfl ⟨rfl, hw⟩

theorem tail2 {x y : GT} {bx b b2 b5 : Nat} {w0 w : World} (hx : Rep w (.iface (tagOf x) (.pointer (some ⟨bx, 0, none⟩))) x) (hy : Rep w (.iface (tagOf y) (.pointer (some ⟨b, 0, none⟩))) y) (hw : Ext w0 w) (h2 : Has w b2 (.cells #[.pointer none] 155)) (h5 : Has w b5 (.cells #[.pointer none] 146)) :
    ∃ c, dropO 30 (bodyOf Tryz.f42) = some c ∧ W Tryz.prog 227 c (fin Tryz.prog Tryz.f42 (Ret fun v w' => v = .bool (slArr x y) ∧ Ext w0 w')) []
      [(5, .pointer (some ⟨b2, 0, none⟩)), (8, .bool false), (12, (.iface (tagOf x) (.pointer (some ⟨bx, 0, none⟩)))), (13, (.iface (tagOf y) (.pointer (some ⟨b, 0, none⟩)))), (14, .pointer none), (16, .pointer (some ⟨b5, 0, none⟩))] w := by
  cases x with
  | slice t =>
    cases y with
    | array m u => exact t2_arr hx hy hw h2 h5
    | ptr u =>
      cases u with
      | array m u => exact t2_ptr_arr hx hy hw h2 h5
      | _ => exact t2_ptr hx hy hw h2 h5 rfl
    | _ => exact t2_oth hx hw h2 h5 rfl rfl
  | _ => exact t2_no hx hw h2 h5 rfl

end Go.Proofs.YtnmodbmaokilaaaGreatDoor

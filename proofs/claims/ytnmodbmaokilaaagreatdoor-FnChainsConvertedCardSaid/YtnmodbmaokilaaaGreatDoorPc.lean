/- The plain family, part 12: the predicates that convertibleTo asks, over plain types. -/
import Derived.Test.YtnmodbmaokilaaaGreatDoorPa
namespace Go.Kd
/-! A walk in parts. -/
def headIs (r : Nat) : Code → Bool
  | .region i _ _ => Nat.beq i r
  | .seq a _ => headIs r a
  | _ => false
/-- what lies from region r on -/
def dropO (r : Nat) : Code → Option Code
  | .seq a b => match headIs r a with
    | true => some (.seq a b)
    | false => dropO r b
  | _ => none
def bodyOf (f : Func) : Code := f.body.getD .skip
theorem W.use {P : Program} {n k : Nat} {Q : Post} {D : List Deferred} {e e' : Env} {w : World} {b c' : Code} (h : ∃ c, dropO k b = some c ∧ W P n c Q D e' w) (hb : dropO k b = some c')
    (hs : ∀ i v, lk e' i = some v → lk e i = some v) : W P n c' Q D e w := by
  obtain ⟨c, h1, h2⟩ := h
  cases h1.symm.trans hb
  exact h2.sub hs
end Go.Kd
namespace Go.Proofs.YtnmodbmaokilaaaGreatDoor
open Go Go.Kd
set_option maxRecDepth 100000

def bitq (i m : Int) : Bool := IntKind.i64.wrap (BitVec.ofInt IntKind.i64.bits i &&& BitVec.ofInt IntKind.i64.bits m).toNat != 0
def isBas (m : Int) : GT → Bool
  | .basic k => bitq (infoOf k) m
  | _ => false
def isK (c : Int) : GT → Bool
  | .basic k => k == c
  | _ => false
def isPt : GT → Bool
  | .ptr _ => true
  | _ => false
def bR : GT → Bool
  | .slice (.basic k) => k == 8 || k == 5
  | _ => false
def slArr : GT → GT → Bool
  | .slice t, .array _ u => decide (t = u)
  | .slice t, .ptr (.array _ u) => decide (t = u)
  | _, _ => false
def restG (x y : GT) : Bool := (isBas 10 x && isBas 10 y) || ((isBas 16 x && isBas 16 y) || (((isBas 2 x || bR x) && isBas 32 y) || ((isBas 32 x && bR y) || (((isPt x || isK 12 x) && isK 18 y) || ((isK 18 x && (isPt y || isK 12 y)) || slArr x y)))))
def convG (x y : GT) : Bool := asgG x y || restG x y

theorem c_isBasic {x : GT} {v : Value} {w : World} (m : Int) (hx : Rep w v x) :
    Calls Tryz.prog 109 #[v, .int .i64 m] w (Ret fun r w' => r = .bool (isBas m x) ∧ w = w') := by
  obtain ⟨b, rfl, hp⟩ := hx.shape
  by_cases hB : tagOf x = 50
  · cases x <;> try (simp [tagOf] at hB; done)
    rename_i k
    have hx' := hx
    cases hx with
    | basic _ hk h1 =>
    rw [show isBas m (.basic k) = bitq (infoOf k) m from rfl]
    unfold bitq
    generalize infoOf k = i at *
    refine W.enter (args := [.iface 50 (.pointer (some ⟨b, 0, none⟩)), .int .i64 m]) Tryz.func109 rfl Tryz.ntmps109 rfl rfl ?_
    (repeat (first
        | (guard_target =~ gU _; first
            | (guard_target =~ gU []; first | refine WU.nilk ?_ | refine WU.nil ?_)
            | refine WU.yld rfl rfl rfl (by first | (guard_target =~ gY (.move _); exact ze rfl) | (guard_target =~ gY (.assign _); exact yf rfl) | (guard_target =~ gY (.load _ _); first | exact za rfl rfl | exact zb rfl) | (guard_target =~ gY (.fieldAddr _ _ _); exact yt rfl) | (guard_target =~ gY (.nilCheck _); first | exact zq rfl | exact zr rfl) | (guard_target =~ gY (.extract _ _); exact ys rfl rfl) | (guard_target =~ gY (.typeAssert _ _ _ true); first | exact ye rfl rfl | exact yd rfl rfl (by first | rfl | assumption) | exact yc rfl rfl) | (guard_target =~ gY (.typeAssert _ _ _ false); exact yb rfl rfl) | (guard_target =~ gY (.makeInterface _ _); exact zd rfl rfl) | (guard_target =~ gY (.pick _ _ _); first | exact zv rfl rfl | exact zu rfl rfl | exact zt rfl rfl rfl) | (guard_target =~ gY (.binOp .neq _ _ _ _); first | exact zj rfl rfl | exact zn rfl rfl | exact zm rfl rfl | exact zg rfl rfl | exact zh rfl rfl | exact zl rfl rfl | exact zf rfl rfl | exact zp rfl rfl | exact zk rfl rfl | exact zo rfl rfl | exact zi (by first | decide | assumption) rfl rfl) | (guard_target =~ gY (.binOp .eql _ _ _ _); first | exact yl rfl rfl | exact yp rfl rfl | exact yo rfl rfl | exact yi rfl rfl | exact yj rfl rfl | exact yn rfl rfl | exact yh rfl rfl | exact yr rfl rfl | exact ym rfl rfl | exact yq rfl rfl | exact yk (by first | decide | assumption) rfl rfl) | (guard_target =~ gY (.unOp .not _ _); exact zs rfl) | (guard_target =~ gY (.binOp .lss _ _ _ _); exact zc rfl rfl) | (guard_target =~ gY (.binOp .leq _ _ _ _); exact yz rfl rfl) | (guard_target =~ gY (.binOp .gtr _ _ _ _); exact yv rfl rfl) | (guard_target =~ gY (.binOp .geq _ _ _ _); exact yu rfl rfl) | (guard_target =~ gY (.binOp .add _ _ _ _); exact ya rfl rfl (by omega)) | (guard_target =~ gY (.binOp .sub _ _ _ _); exact zw rfl rfl (by omega)) | (guard_target =~ gY (.call _); first | exact yx rfl | exact yy rfl) | (guard_target =~ gY (.build _ _); exact yg rfl rfl) | (guard_target =~ gY (.indexAddr _ _ _); exact yw rfl rfl (by omega) (by omega))) ?_
            | refine WU.skip rfl rfl rfl ?_)
        | (guard_target =~ gW (.seq _ _); refine W.seq ?_)
        | (guard_target =~ gW (.region _ _ false); refine W.reg ?_)
        | (guard_target =~ gW (.cond _ _ _); first | refine W.cond_t rfl ?_ | refine W.cond_f rfl ?_)
        | (guard_target =~ gW (.block _ _); refine W.block ?_)
        | (guard_target =~ gW .skip; refine W.skip ?_)
        | (guard_target =~ gW (.exit _); refine W.exit ?_)
        | (guard_target =~ gW .ret; refine W.ret ?_)
        | (guard_target =~ gT .normal; refine thn_normal ?_)
        | (guard_target =~ gT (.exit _); refine thn_exit ?_)
        | (guard_target =~ gT .ret; refine thn_ret ?_)
        | (guard_target =~ gI .normal; refine inb_normal ?_)
        | (guard_target =~ gI (.exit _); first | refine inb_hit ?_ | refine inb_miss rfl ?_)
        | (guard_target =~ gI .ret; refine inb_ret ?_)))
    refine WU.stp rfl rfl rfl (stp_und hx' rfl) ?_
    rintro _ w2 ⟨rfl, rfl⟩
    (repeat (first
        | (guard_target =~ gU _; first
            | (guard_target =~ gU []; first | refine WU.nilk ?_ | refine WU.nil ?_)
            | refine WU.yld rfl rfl rfl (by first | (guard_target =~ gY (.move _); exact ze rfl) | (guard_target =~ gY (.assign _); exact yf rfl) | (guard_target =~ gY (.load _ _); first | exact za rfl rfl | exact zb rfl) | (guard_target =~ gY (.fieldAddr _ _ _); exact yt rfl) | (guard_target =~ gY (.nilCheck _); first | exact zq rfl | exact zr rfl) | (guard_target =~ gY (.extract _ _); exact ys rfl rfl) | (guard_target =~ gY (.typeAssert _ _ _ true); first | exact ye rfl rfl | exact yd rfl rfl (by first | rfl | assumption) | exact yc rfl rfl) | (guard_target =~ gY (.typeAssert _ _ _ false); exact yb rfl rfl) | (guard_target =~ gY (.makeInterface _ _); exact zd rfl rfl) | (guard_target =~ gY (.pick _ _ _); first | exact zv rfl rfl | exact zu rfl rfl | exact zt rfl rfl rfl) | (guard_target =~ gY (.binOp .neq _ _ _ _); first | exact zj rfl rfl | exact zn rfl rfl | exact zm rfl rfl | exact zg rfl rfl | exact zh rfl rfl | exact zl rfl rfl | exact zf rfl rfl | exact zp rfl rfl | exact zk rfl rfl | exact zo rfl rfl | exact zi (by first | decide | assumption) rfl rfl) | (guard_target =~ gY (.binOp .eql _ _ _ _); first | exact yl rfl rfl | exact yp rfl rfl | exact yo rfl rfl | exact yi rfl rfl | exact yj rfl rfl | exact yn rfl rfl | exact yh rfl rfl | exact yr rfl rfl | exact ym rfl rfl | exact yq rfl rfl | exact yk (by first | decide | assumption) rfl rfl) | (guard_target =~ gY (.unOp .not _ _); exact zs rfl) | (guard_target =~ gY (.binOp .lss _ _ _ _); exact zc rfl rfl) | (guard_target =~ gY (.binOp .leq _ _ _ _); exact yz rfl rfl) | (guard_target =~ gY (.binOp .gtr _ _ _ _); exact yv rfl rfl) | (guard_target =~ gY (.binOp .geq _ _ _ _); exact yu rfl rfl) | (guard_target =~ gY (.binOp .add _ _ _ _); exact ya rfl rfl (by omega)) | (guard_target =~ gY (.binOp .sub _ _ _ _); exact zw rfl rfl (by omega)) | (guard_target =~ gY (.call _); first | exact yx rfl | exact yy rfl) | (guard_target =~ gY (.build _ _); exact yg rfl rfl) | (guard_target =~ gY (.indexAddr _ _ _); exact yw rfl rfl (by omega) (by omega))) ?_
            | refine WU.skip rfl rfl rfl ?_)
        | (guard_target =~ gW (.seq _ _); refine W.seq ?_)
        | (guard_target =~ gW (.region _ _ false); refine W.reg ?_)
        | (guard_target =~ gW (.cond _ _ _); first | refine W.cond_t rfl ?_ | refine W.cond_f rfl ?_)
        | (guard_target =~ gW (.block _ _); refine W.block ?_)
        | (guard_target =~ gW .skip; refine W.skip ?_)
        | (guard_target =~ gW (.exit _); refine W.exit ?_)
        | (guard_target =~ gW .ret; refine W.ret ?_)
        | (guard_target =~ gT .normal; refine thn_normal ?_)
        | (guard_target =~ gT (.exit _); refine thn_exit ?_)
        | (guard_target =~ gT .ret; refine thn_ret ?_)
        | (guard_target =~ gI .normal; refine inb_normal ?_)
        | (guard_target =~ gI (.exit _); first | refine inb_hit ?_ | refine inb_miss rfl ?_)
        | (guard_target =~ gI .ret; refine inb_ret ?_)))
    refine WU.yld rfl rfl rfl (yld_and rfl rfl) ?_
    (repeat (first
        | (guard_target =~ gU _; first
            | (guard_target =~ gU []; first | refine WU.nilk ?_ | refine WU.nil ?_)
            | refine WU.yld rfl rfl rfl (by first | (guard_target =~ gY (.move _); exact ze rfl) | (guard_target =~ gY (.assign _); exact yf rfl) | (guard_target =~ gY (.load _ _); first | exact za rfl rfl | exact zb rfl) | (guard_target =~ gY (.fieldAddr _ _ _); exact yt rfl) | (guard_target =~ gY (.nilCheck _); first | exact zq rfl | exact zr rfl) | (guard_target =~ gY (.extract _ _); exact ys rfl rfl) | (guard_target =~ gY (.typeAssert _ _ _ true); first | exact ye rfl rfl | exact yd rfl rfl (by first | rfl | assumption) | exact yc rfl rfl) | (guard_target =~ gY (.typeAssert _ _ _ false); exact yb rfl rfl) | (guard_target =~ gY (.makeInterface _ _); exact zd rfl rfl) | (guard_target =~ gY (.pick _ _ _); first | exact zv rfl rfl | exact zu rfl rfl | exact zt rfl rfl rfl) | (guard_target =~ gY (.binOp .neq _ _ _ _); first | exact zj rfl rfl | exact zn rfl rfl | exact zm rfl rfl | exact zg rfl rfl | exact zh rfl rfl | exact zl rfl rfl | exact zf rfl rfl | exact zp rfl rfl | exact zk rfl rfl | exact zo rfl rfl | exact zi (by first | decide | assumption) rfl rfl) | (guard_target =~ gY (.binOp .eql _ _ _ _); first | exact yl rfl rfl | exact yp rfl rfl | exact yo rfl rfl | exact yi rfl rfl | exact yj rfl rfl | exact yn rfl rfl | exact yh rfl rfl | exact yr rfl rfl | exact ym rfl rfl | exact yq rfl rfl | exact yk (by first | decide | assumption) rfl rfl) | (guard_target =~ gY (.unOp .not _ _); exact zs rfl) | (guard_target =~ gY (.binOp .lss _ _ _ _); exact zc rfl rfl) | (guard_target =~ gY (.binOp .leq _ _ _ _); exact yz rfl rfl) | (guard_target =~ gY (.binOp .gtr _ _ _ _); exact yv rfl rfl) | (guard_target =~ gY (.binOp .geq _ _ _ _); exact yu rfl rfl) | (guard_target =~ gY (.binOp .add _ _ _ _); exact ya rfl rfl (by omega)) | (guard_target =~ gY (.binOp .sub _ _ _ _); exact zw rfl rfl (by omega)) | (guard_target =~ gY (.call _); first | exact yx rfl | exact yy rfl) | (guard_target =~ gY (.build _ _); exact yg rfl rfl) | (guard_target =~ gY (.indexAddr _ _ _); exact yw rfl rfl (by omega) (by omega))) ?_
            | refine WU.skip rfl rfl rfl ?_)
        | (guard_target =~ gW (.seq _ _); refine W.seq ?_)
        | (guard_target =~ gW (.region _ _ false); refine W.reg ?_)
        | (guard_target =~ gW (.cond _ _ _); first | refine W.cond_t rfl ?_ | refine W.cond_f rfl ?_)
        | (guard_target =~ gW (.block _ _); refine W.block ?_)
        | (guard_target =~ gW .skip; refine W.skip ?_)
        | (guard_target =~ gW (.exit _); refine W.exit ?_)
        | (guard_target =~ gW .ret; refine W.ret ?_)
        | (guard_target =~ gT .normal; refine thn_normal ?_)
        | (guard_target =~ gT (.exit _); refine thn_exit ?_)
        | (guard_target =~ gT .ret; refine thn_ret ?_)
        | (guard_target =~ gI .normal; refine inb_normal ?_)
        | (guard_target =~ gI (.exit _); first | refine inb_hit ?_ | refine inb_miss rfl ?_)
        | (guard_target =~ gI .ret; refine inb_ret ?_)))
    exact fin1 (.inl rfl) rfl rfl ⟨rfl, rfl⟩
  · have hT := beq_no hB
    have hb : isBas m x = false := by cases x <;> first | rfl | exact absurd rfl hB
    rw [hb]
    refine W.enter (args := [.iface (tagOf x) (.pointer (some ⟨b, 0, none⟩)), .int .i64 m]) Tryz.func109 rfl Tryz.ntmps109 rfl rfl ?_
    (repeat (first
        | (guard_target =~ gU _; first
            | (guard_target =~ gU []; first | refine WU.nilk ?_ | refine WU.nil ?_)
            | refine WU.yld rfl rfl rfl (by first | (guard_target =~ gY (.move _); exact ze rfl) | (guard_target =~ gY (.assign _); exact yf rfl) | (guard_target =~ gY (.load _ _); first | exact za rfl rfl | exact zb rfl) | (guard_target =~ gY (.fieldAddr _ _ _); exact yt rfl) | (guard_target =~ gY (.nilCheck _); first | exact zq rfl | exact zr rfl) | (guard_target =~ gY (.extract _ _); exact ys rfl rfl) | (guard_target =~ gY (.typeAssert _ _ _ true); first | exact ye rfl rfl | exact yd rfl rfl (by first | rfl | assumption) | exact yc rfl rfl) | (guard_target =~ gY (.typeAssert _ _ _ false); exact yb rfl rfl) | (guard_target =~ gY (.makeInterface _ _); exact zd rfl rfl) | (guard_target =~ gY (.pick _ _ _); first | exact zv rfl rfl | exact zu rfl rfl | exact zt rfl rfl rfl) | (guard_target =~ gY (.binOp .neq _ _ _ _); first | exact zj rfl rfl | exact zn rfl rfl | exact zm rfl rfl | exact zg rfl rfl | exact zh rfl rfl | exact zl rfl rfl | exact zf rfl rfl | exact zp rfl rfl | exact zk rfl rfl | exact zo rfl rfl | exact zi (by first | decide | assumption) rfl rfl) | (guard_target =~ gY (.binOp .eql _ _ _ _); first | exact yl rfl rfl | exact yp rfl rfl | exact yo rfl rfl | exact yi rfl rfl | exact yj rfl rfl | exact yn rfl rfl | exact yh rfl rfl | exact yr rfl rfl | exact ym rfl rfl | exact yq rfl rfl | exact yk (by first | decide | assumption) rfl rfl) | (guard_target =~ gY (.unOp .not _ _); exact zs rfl) | (guard_target =~ gY (.binOp .lss _ _ _ _); exact zc rfl rfl) | (guard_target =~ gY (.binOp .leq _ _ _ _); exact yz rfl rfl) | (guard_target =~ gY (.binOp .gtr _ _ _ _); exact yv rfl rfl) | (guard_target =~ gY (.binOp .geq _ _ _ _); exact yu rfl rfl) | (guard_target =~ gY (.binOp .add _ _ _ _); exact ya rfl rfl (by omega)) | (guard_target =~ gY (.binOp .sub _ _ _ _); exact zw rfl rfl (by omega)) | (guard_target =~ gY (.call _); first | exact yx rfl | exact yy rfl) | (guard_target =~ gY (.build _ _); exact yg rfl rfl) | (guard_target =~ gY (.indexAddr _ _ _); exact yw rfl rfl (by omega) (by omega))) ?_
            | refine WU.skip rfl rfl rfl ?_)
        | (guard_target =~ gW (.seq _ _); refine W.seq ?_)
        | (guard_target =~ gW (.region _ _ false); refine W.reg ?_)
        | (guard_target =~ gW (.cond _ _ _); first | refine W.cond_t rfl ?_ | refine W.cond_f rfl ?_)
        | (guard_target =~ gW (.block _ _); refine W.block ?_)
        | (guard_target =~ gW .skip; refine W.skip ?_)
        | (guard_target =~ gW (.exit _); refine W.exit ?_)
        | (guard_target =~ gW .ret; refine W.ret ?_)
        | (guard_target =~ gT .normal; refine thn_normal ?_)
        | (guard_target =~ gT (.exit _); refine thn_exit ?_)
        | (guard_target =~ gT .ret; refine thn_ret ?_)
        | (guard_target =~ gI .normal; refine inb_normal ?_)
        | (guard_target =~ gI (.exit _); first | refine inb_hit ?_ | refine inb_miss rfl ?_)
        | (guard_target =~ gI .ret; refine inb_ret ?_)))
    refine WU.stp rfl rfl rfl (stp_und hx rfl) ?_
    rintro _ w2 ⟨rfl, rfl⟩
    (repeat (first
        | (guard_target =~ gU _; first
            | (guard_target =~ gU []; first | refine WU.nilk ?_ | refine WU.nil ?_)
            | refine WU.yld rfl rfl rfl (by first | (guard_target =~ gY (.move _); exact ze rfl) | (guard_target =~ gY (.assign _); exact yf rfl) | (guard_target =~ gY (.load _ _); first | exact za rfl rfl | exact zb rfl) | (guard_target =~ gY (.fieldAddr _ _ _); exact yt rfl) | (guard_target =~ gY (.nilCheck _); first | exact zq rfl | exact zr rfl) | (guard_target =~ gY (.extract _ _); exact ys rfl rfl) | (guard_target =~ gY (.typeAssert _ _ _ true); first | exact ye rfl rfl | exact yd rfl rfl (by first | rfl | assumption) | exact yc rfl rfl) | (guard_target =~ gY (.typeAssert _ _ _ false); exact yb rfl rfl) | (guard_target =~ gY (.makeInterface _ _); exact zd rfl rfl) | (guard_target =~ gY (.pick _ _ _); first | exact zv rfl rfl | exact zu rfl rfl | exact zt rfl rfl rfl) | (guard_target =~ gY (.binOp .neq _ _ _ _); first | exact zj rfl rfl | exact zn rfl rfl | exact zm rfl rfl | exact zg rfl rfl | exact zh rfl rfl | exact zl rfl rfl | exact zf rfl rfl | exact zp rfl rfl | exact zk rfl rfl | exact zo rfl rfl | exact zi (by first | decide | assumption) rfl rfl) | (guard_target =~ gY (.binOp .eql _ _ _ _); first | exact yl rfl rfl | exact yp rfl rfl | exact yo rfl rfl | exact yi rfl rfl | exact yj rfl rfl | exact yn rfl rfl | exact yh rfl rfl | exact yr rfl rfl | exact ym rfl rfl | exact yq rfl rfl | exact yk (by first | decide | assumption) rfl rfl) | (guard_target =~ gY (.unOp .not _ _); exact zs rfl) | (guard_target =~ gY (.binOp .lss _ _ _ _); exact zc rfl rfl) | (guard_target =~ gY (.binOp .leq _ _ _ _); exact yz rfl rfl) | (guard_target =~ gY (.binOp .gtr _ _ _ _); exact yv rfl rfl) | (guard_target =~ gY (.binOp .geq _ _ _ _); exact yu rfl rfl) | (guard_target =~ gY (.binOp .add _ _ _ _); exact ya rfl rfl (by omega)) | (guard_target =~ gY (.binOp .sub _ _ _ _); exact zw rfl rfl (by omega)) | (guard_target =~ gY (.call _); first | exact yx rfl | exact yy rfl) | (guard_target =~ gY (.build _ _); exact yg rfl rfl) | (guard_target =~ gY (.indexAddr _ _ _); exact yw rfl rfl (by omega) (by omega))) ?_
            | refine WU.skip rfl rfl rfl ?_)
        | (guard_target =~ gW (.seq _ _); refine W.seq ?_)
        | (guard_target =~ gW (.region _ _ false); refine W.reg ?_)
        | (guard_target =~ gW (.cond _ _ _); first | refine W.cond_t rfl ?_ | refine W.cond_f rfl ?_)
        | (guard_target =~ gW (.block _ _); refine W.block ?_)
        | (guard_target =~ gW .skip; refine W.skip ?_)
        | (guard_target =~ gW (.exit _); refine W.exit ?_)
        | (guard_target =~ gW .ret; refine W.ret ?_)
        | (guard_target =~ gT .normal; refine thn_normal ?_)
        | (guard_target =~ gT (.exit _); refine thn_exit ?_)
        | (guard_target =~ gT .ret; refine thn_ret ?_)
        | (guard_target =~ gI .normal; refine inb_normal ?_)
        | (guard_target =~ gI (.exit _); first | refine inb_hit ?_ | refine inb_miss rfl ?_)
        | (guard_target =~ gI .ret; refine inb_ret ?_)))
    exact fin1 (.inl rfl) rfl rfl ⟨rfl, rfl⟩

theorem c_isIntegerOrFloat {x : GT} {v : Value} {w : World} (hx : Rep w v x) :
    Calls Tryz.prog 70 #[v] w (Ret fun r w' => r = .bool (isBas 10 x) ∧ w = w') := by
  refine W.enter (args := [v]) Tryz.func70 rfl Tryz.ntmps70 rfl rfl ?_
  (repeat (first
      | (guard_target =~ gU _; first
          | (guard_target =~ gU []; first | refine WU.nilk ?_ | refine WU.nil ?_)
          | refine WU.yld rfl rfl rfl (by first | (guard_target =~ gY (.move _); exact ze rfl) | (guard_target =~ gY (.assign _); exact yf rfl) | (guard_target =~ gY (.load _ _); first | exact za rfl rfl | exact zb rfl) | (guard_target =~ gY (.fieldAddr _ _ _); exact yt rfl) | (guard_target =~ gY (.nilCheck _); first | exact zq rfl | exact zr rfl) | (guard_target =~ gY (.extract _ _); exact ys rfl rfl) | (guard_target =~ gY (.typeAssert _ _ _ true); first | exact ye rfl rfl | exact yd rfl rfl (by first | rfl | assumption) | exact yc rfl rfl) | (guard_target =~ gY (.typeAssert _ _ _ false); exact yb rfl rfl) | (guard_target =~ gY (.makeInterface _ _); exact zd rfl rfl) | (guard_target =~ gY (.pick _ _ _); first | exact zv rfl rfl | exact zu rfl rfl | exact zt rfl rfl rfl) | (guard_target =~ gY (.binOp .neq _ _ _ _); first | exact zj rfl rfl | exact zn rfl rfl | exact zm rfl rfl | exact zg rfl rfl | exact zh rfl rfl | exact zl rfl rfl | exact zf rfl rfl | exact zp rfl rfl | exact zk rfl rfl | exact zo rfl rfl | exact zi (by first | decide | assumption) rfl rfl) | (guard_target =~ gY (.binOp .eql _ _ _ _); first | exact yl rfl rfl | exact yp rfl rfl | exact yo rfl rfl | exact yi rfl rfl | exact yj rfl rfl | exact yn rfl rfl | exact yh rfl rfl | exact yr rfl rfl | exact ym rfl rfl | exact yq rfl rfl | exact yk (by first | decide | assumption) rfl rfl) | (guard_target =~ gY (.unOp .not _ _); exact zs rfl) | (guard_target =~ gY (.binOp .lss _ _ _ _); exact zc rfl rfl) | (guard_target =~ gY (.binOp .leq _ _ _ _); exact yz rfl rfl) | (guard_target =~ gY (.binOp .gtr _ _ _ _); exact yv rfl rfl) | (guard_target =~ gY (.binOp .geq _ _ _ _); exact yu rfl rfl) | (guard_target =~ gY (.binOp .add _ _ _ _); exact ya rfl rfl (by omega)) | (guard_target =~ gY (.binOp .sub _ _ _ _); exact zw rfl rfl (by omega)) | (guard_target =~ gY (.call _); first | exact yx rfl | exact yy rfl) | (guard_target =~ gY (.build _ _); exact yg rfl rfl) | (guard_target =~ gY (.indexAddr _ _ _); exact yw rfl rfl (by omega) (by omega))) ?_
          | refine WU.skip rfl rfl rfl ?_)
      | (guard_target =~ gW (.seq _ _); refine W.seq ?_)
      | (guard_target =~ gW (.region _ _ false); refine W.reg ?_)
      | (guard_target =~ gW (.cond _ _ _); first | refine W.cond_t rfl ?_ | refine W.cond_f rfl ?_)
      | (guard_target =~ gW (.block _ _); refine W.block ?_)
      | (guard_target =~ gW .skip; refine W.skip ?_)
      | (guard_target =~ gW (.exit _); refine W.exit ?_)
      | (guard_target =~ gW .ret; refine W.ret ?_)
      | (guard_target =~ gT .normal; refine thn_normal ?_)
      | (guard_target =~ gT (.exit _); refine thn_exit ?_)
      | (guard_target =~ gT .ret; refine thn_ret ?_)
      | (guard_target =~ gI .normal; refine inb_normal ?_)
      | (guard_target =~ gI (.exit _); first | refine inb_hit ?_ | refine inb_miss rfl ?_)
      | (guard_target =~ gI .ret; refine inb_ret ?_)))
  refine WU.stp rfl rfl rfl (stp_call rfl (c_isBasic 10 hx)) ?_
  rintro _ w2 ⟨rfl, rfl⟩
  (repeat (first
      | (guard_target =~ gU _; first
          | (guard_target =~ gU []; first | refine WU.nilk ?_ | refine WU.nil ?_)
          | refine WU.yld rfl rfl rfl (by first | (guard_target =~ gY (.move _); exact ze rfl) | (guard_target =~ gY (.assign _); exact yf rfl) | (guard_target =~ gY (.load _ _); first | exact za rfl rfl | exact zb rfl) | (guard_target =~ gY (.fieldAddr _ _ _); exact yt rfl) | (guard_target =~ gY (.nilCheck _); first | exact zq rfl | exact zr rfl) | (guard_target =~ gY (.extract _ _); exact ys rfl rfl) | (guard_target =~ gY (.typeAssert _ _ _ true); first | exact ye rfl rfl | exact yd rfl rfl (by first | rfl | assumption) | exact yc rfl rfl) | (guard_target =~ gY (.typeAssert _ _ _ false); exact yb rfl rfl) | (guard_target =~ gY (.makeInterface _ _); exact zd rfl rfl) | (guard_target =~ gY (.pick _ _ _); first | exact zv rfl rfl | exact zu rfl rfl | exact zt rfl rfl rfl) | (guard_target =~ gY (.binOp .neq _ _ _ _); first | exact zj rfl rfl | exact zn rfl rfl | exact zm rfl rfl | exact zg rfl rfl | exact zh rfl rfl | exact zl rfl rfl | exact zf rfl rfl | exact zp rfl rfl | exact zk rfl rfl | exact zo rfl rfl | exact zi (by first | decide | assumption) rfl rfl) | (guard_target =~ gY (.binOp .eql _ _ _ _); first | exact yl rfl rfl | exact yp rfl rfl | exact yo rfl rfl | exact yi rfl rfl | exact yj rfl rfl | exact yn rfl rfl | exact yh rfl rfl | exact yr rfl rfl | exact ym rfl rfl | exact yq rfl rfl | exact yk (by first | decide | assumption) rfl rfl) | (guard_target =~ gY (.unOp .not _ _); exact zs rfl) | (guard_target =~ gY (.binOp .lss _ _ _ _); exact zc rfl rfl) | (guard_target =~ gY (.binOp .leq _ _ _ _); exact yz rfl rfl) | (guard_target =~ gY (.binOp .gtr _ _ _ _); exact yv rfl rfl) | (guard_target =~ gY (.binOp .geq _ _ _ _); exact yu rfl rfl) | (guard_target =~ gY (.binOp .add _ _ _ _); exact ya rfl rfl (by omega)) | (guard_target =~ gY (.binOp .sub _ _ _ _); exact zw rfl rfl (by omega)) | (guard_target =~ gY (.call _); first | exact yx rfl | exact yy rfl) | (guard_target =~ gY (.build _ _); exact yg rfl rfl) | (guard_target =~ gY (.indexAddr _ _ _); exact yw rfl rfl (by omega) (by omega))) ?_
          | refine WU.skip rfl rfl rfl ?_)
      | (guard_target =~ gW (.seq _ _); refine W.seq ?_)
      | (guard_target =~ gW (.region _ _ false); refine W.reg ?_)
      | (guard_target =~ gW (.cond _ _ _); first | refine W.cond_t rfl ?_ | refine W.cond_f rfl ?_)
      | (guard_target =~ gW (.block _ _); refine W.block ?_)
      | (guard_target =~ gW .skip; refine W.skip ?_)
      | (guard_target =~ gW (.exit _); refine W.exit ?_)
      | (guard_target =~ gW .ret; refine W.ret ?_)
      | (guard_target =~ gT .normal; refine thn_normal ?_)
      | (guard_target =~ gT (.exit _); refine thn_exit ?_)
      | (guard_target =~ gT .ret; refine thn_ret ?_)
      | (guard_target =~ gI .normal; refine inb_normal ?_)
      | (guard_target =~ gI (.exit _); first | refine inb_hit ?_ | refine inb_miss rfl ?_)
      | (guard_target =~ gI .ret; refine inb_ret ?_)))
  exact fin1 (.inl rfl) rfl rfl ⟨rfl, rfl⟩

theorem c_isComplex {x : GT} {v : Value} {w : World} (hx : Rep w v x) :
    Calls Tryz.prog 71 #[v] w (Ret fun r w' => r = .bool (isBas 16 x) ∧ w = w') := by
  refine W.enter (args := [v]) Tryz.func71 rfl Tryz.ntmps71 rfl rfl ?_
  (repeat (first
      | (guard_target =~ gU _; first
          | (guard_target =~ gU []; first | refine WU.nilk ?_ | refine WU.nil ?_)
          | refine WU.yld rfl rfl rfl (by first | (guard_target =~ gY (.move _); exact ze rfl) | (guard_target =~ gY (.assign _); exact yf rfl) | (guard_target =~ gY (.load _ _); first | exact za rfl rfl | exact zb rfl) | (guard_target =~ gY (.fieldAddr _ _ _); exact yt rfl) | (guard_target =~ gY (.nilCheck _); first | exact zq rfl | exact zr rfl) | (guard_target =~ gY (.extract _ _); exact ys rfl rfl) | (guard_target =~ gY (.typeAssert _ _ _ true); first | exact ye rfl rfl | exact yd rfl rfl (by first | rfl | assumption) | exact yc rfl rfl) | (guard_target =~ gY (.typeAssert _ _ _ false); exact yb rfl rfl) | (guard_target =~ gY (.makeInterface _ _); exact zd rfl rfl) | (guard_target =~ gY (.pick _ _ _); first | exact zv rfl rfl | exact zu rfl rfl | exact zt rfl rfl rfl) | (guard_target =~ gY (.binOp .neq _ _ _ _); first | exact zj rfl rfl | exact zn rfl rfl | exact zm rfl rfl | exact zg rfl rfl | exact zh rfl rfl | exact zl rfl rfl | exact zf rfl rfl | exact zp rfl rfl | exact zk rfl rfl | exact zo rfl rfl | exact zi (by first | decide | assumption) rfl rfl) | (guard_target =~ gY (.binOp .eql _ _ _ _); first | exact yl rfl rfl | exact yp rfl rfl | exact yo rfl rfl | exact yi rfl rfl | exact yj rfl rfl | exact yn rfl rfl | exact yh rfl rfl | exact yr rfl rfl | exact ym rfl rfl | exact yq rfl rfl | exact yk (by first | decide | assumption) rfl rfl) | (guard_target =~ gY (.unOp .not _ _); exact zs rfl) | (guard_target =~ gY (.binOp .lss _ _ _ _); exact zc rfl rfl) | (guard_target =~ gY (.binOp .leq _ _ _ _); exact yz rfl rfl) | (guard_target =~ gY (.binOp .gtr _ _ _ _); exact yv rfl rfl) | (guard_target =~ gY (.binOp .geq _ _ _ _); exact yu rfl rfl) | (guard_target =~ gY (.binOp .add _ _ _ _); exact ya rfl rfl (by omega)) | (guard_target =~ gY (.binOp .sub _ _ _ _); exact zw rfl rfl (by omega)) | (guard_target =~ gY (.call _); first | exact yx rfl | exact yy rfl) | (guard_target =~ gY (.build _ _); exact yg rfl rfl) | (guard_target =~ gY (.indexAddr _ _ _); exact yw rfl rfl (by omega) (by omega))) ?_
          | refine WU.skip rfl rfl rfl ?_)
      | (guard_target =~ gW (.seq _ _); refine W.seq ?_)
      | (guard_target =~ gW (.region _ _ false); refine W.reg ?_)
      | (guard_target =~ gW (.cond _ _ _); first | refine W.cond_t rfl ?_ | refine W.cond_f rfl ?_)
      | (guard_target =~ gW (.block _ _); refine W.block ?_)
      | (guard_target =~ gW .skip; refine W.skip ?_)
      | (guard_target =~ gW (.exit _); refine W.exit ?_)
      | (guard_target =~ gW .ret; refine W.ret ?_)
      | (guard_target =~ gT .normal; refine thn_normal ?_)
      | (guard_target =~ gT (.exit _); refine thn_exit ?_)
      | (guard_target =~ gT .ret; refine thn_ret ?_)
      | (guard_target =~ gI .normal; refine inb_normal ?_)
      | (guard_target =~ gI (.exit _); first | refine inb_hit ?_ | refine inb_miss rfl ?_)
      | (guard_target =~ gI .ret; refine inb_ret ?_)))
  refine WU.stp rfl rfl rfl (stp_call rfl (c_isBasic 16 hx)) ?_
  rintro _ w2 ⟨rfl, rfl⟩
  (repeat (first
      | (guard_target =~ gU _; first
          | (guard_target =~ gU []; first | refine WU.nilk ?_ | refine WU.nil ?_)
          | refine WU.yld rfl rfl rfl (by first | (guard_target =~ gY (.move _); exact ze rfl) | (guard_target =~ gY (.assign _); exact yf rfl) | (guard_target =~ gY (.load _ _); first | exact za rfl rfl | exact zb rfl) | (guard_target =~ gY (.fieldAddr _ _ _); exact yt rfl) | (guard_target =~ gY (.nilCheck _); first | exact zq rfl | exact zr rfl) | (guard_target =~ gY (.extract _ _); exact ys rfl rfl) | (guard_target =~ gY (.typeAssert _ _ _ true); first | exact ye rfl rfl | exact yd rfl rfl (by first | rfl | assumption) | exact yc rfl rfl) | (guard_target =~ gY (.typeAssert _ _ _ false); exact yb rfl rfl) | (guard_target =~ gY (.makeInterface _ _); exact zd rfl rfl) | (guard_target =~ gY (.pick _ _ _); first | exact zv rfl rfl | exact zu rfl rfl | exact zt rfl rfl rfl) | (guard_target =~ gY (.binOp .neq _ _ _ _); first | exact zj rfl rfl | exact zn rfl rfl | exact zm rfl rfl | exact zg rfl rfl | exact zh rfl rfl | exact zl rfl rfl | exact zf rfl rfl | exact zp rfl rfl | exact zk rfl rfl | exact zo rfl rfl | exact zi (by first | decide | assumption) rfl rfl) | (guard_target =~ gY (.binOp .eql _ _ _ _); first | exact yl rfl rfl | exact yp rfl rfl | exact yo rfl rfl | exact yi rfl rfl | exact yj rfl rfl | exact yn rfl rfl | exact yh rfl rfl | exact yr rfl rfl | exact ym rfl rfl | exact yq rfl rfl | exact yk (by first | decide | assumption) rfl rfl) | (guard_target =~ gY (.unOp .not _ _); exact zs rfl) | (guard_target =~ gY (.binOp .lss _ _ _ _); exact zc rfl rfl) | (guard_target =~ gY (.binOp .leq _ _ _ _); exact yz rfl rfl) | (guard_target =~ gY (.binOp .gtr _ _ _ _); exact yv rfl rfl) | (guard_target =~ gY (.binOp .geq _ _ _ _); exact yu rfl rfl) | (guard_target =~ gY (.binOp .add _ _ _ _); exact ya rfl rfl (by omega)) | (guard_target =~ gY (.binOp .sub _ _ _ _); exact zw rfl rfl (by omega)) | (guard_target =~ gY (.call _); first | exact yx rfl | exact yy rfl) | (guard_target =~ gY (.build _ _); exact yg rfl rfl) | (guard_target =~ gY (.indexAddr _ _ _); exact yw rfl rfl (by omega) (by omega))) ?_
          | refine WU.skip rfl rfl rfl ?_)
      | (guard_target =~ gW (.seq _ _); refine W.seq ?_)
      | (guard_target =~ gW (.region _ _ false); refine W.reg ?_)
      | (guard_target =~ gW (.cond _ _ _); first | refine W.cond_t rfl ?_ | refine W.cond_f rfl ?_)
      | (guard_target =~ gW (.block _ _); refine W.block ?_)
      | (guard_target =~ gW .skip; refine W.skip ?_)
      | (guard_target =~ gW (.exit _); refine W.exit ?_)
      | (guard_target =~ gW .ret; refine W.ret ?_)
      | (guard_target =~ gT .normal; refine thn_normal ?_)
      | (guard_target =~ gT (.exit _); refine thn_exit ?_)
      | (guard_target =~ gT .ret; refine thn_ret ?_)
      | (guard_target =~ gI .normal; refine inb_normal ?_)
      | (guard_target =~ gI (.exit _); first | refine inb_hit ?_ | refine inb_miss rfl ?_)
      | (guard_target =~ gI .ret; refine inb_ret ?_)))
  exact fin1 (.inl rfl) rfl rfl ⟨rfl, rfl⟩

theorem c_isInteger {x : GT} {v : Value} {w : World} (hx : Rep w v x) :
    Calls Tryz.prog 72 #[v] w (Ret fun r w' => r = .bool (isBas 2 x) ∧ w = w') := by
  refine W.enter (args := [v]) Tryz.func72 rfl Tryz.ntmps72 rfl rfl ?_
  (repeat (first
      | (guard_target =~ gU _; first
          | (guard_target =~ gU []; first | refine WU.nilk ?_ | refine WU.nil ?_)
          | refine WU.yld rfl rfl rfl (by first | (guard_target =~ gY (.move _); exact ze rfl) | (guard_target =~ gY (.assign _); exact yf rfl) | (guard_target =~ gY (.load _ _); first | exact za rfl rfl | exact zb rfl) | (guard_target =~ gY (.fieldAddr _ _ _); exact yt rfl) | (guard_target =~ gY (.nilCheck _); first | exact zq rfl | exact zr rfl) | (guard_target =~ gY (.extract _ _); exact ys rfl rfl) | (guard_target =~ gY (.typeAssert _ _ _ true); first | exact ye rfl rfl | exact yd rfl rfl (by first | rfl | assumption) | exact yc rfl rfl) | (guard_target =~ gY (.typeAssert _ _ _ false); exact yb rfl rfl) | (guard_target =~ gY (.makeInterface _ _); exact zd rfl rfl) | (guard_target =~ gY (.pick _ _ _); first | exact zv rfl rfl | exact zu rfl rfl | exact zt rfl rfl rfl) | (guard_target =~ gY (.binOp .neq _ _ _ _); first | exact zj rfl rfl | exact zn rfl rfl | exact zm rfl rfl | exact zg rfl rfl | exact zh rfl rfl | exact zl rfl rfl | exact zf rfl rfl | exact zp rfl rfl | exact zk rfl rfl | exact zo rfl rfl | exact zi (by first | decide | assumption) rfl rfl) | (guard_target =~ gY (.binOp .eql _ _ _ _); first | exact yl rfl rfl | exact yp rfl rfl | exact yo rfl rfl | exact yi rfl rfl | exact yj rfl rfl | exact yn rfl rfl | exact yh rfl rfl | exact yr rfl rfl | exact ym rfl rfl | exact yq rfl rfl | exact yk (by first | decide | assumption) rfl rfl) | (guard_target =~ gY (.unOp .not _ _); exact zs rfl) | (guard_target =~ gY (.binOp .lss _ _ _ _); exact zc rfl rfl) | (guard_target =~ gY (.binOp .leq _ _ _ _); exact yz rfl rfl) | (guard_target =~ gY (.binOp .gtr _ _ _ _); exact yv rfl rfl) | (guard_target =~ gY (.binOp .geq _ _ _ _); exact yu rfl rfl) | (guard_target =~ gY (.binOp .add _ _ _ _); exact ya rfl rfl (by omega)) | (guard_target =~ gY (.binOp .sub _ _ _ _); exact zw rfl rfl (by omega)) | (guard_target =~ gY (.call _); first | exact yx rfl | exact yy rfl) | (guard_target =~ gY (.build _ _); exact yg rfl rfl) | (guard_target =~ gY (.indexAddr _ _ _); exact yw rfl rfl (by omega) (by omega))) ?_
          | refine WU.skip rfl rfl rfl ?_)
      | (guard_target =~ gW (.seq _ _); refine W.seq ?_)
      | (guard_target =~ gW (.region _ _ false); refine W.reg ?_)
      | (guard_target =~ gW (.cond _ _ _); first | refine W.cond_t rfl ?_ | refine W.cond_f rfl ?_)
      | (guard_target =~ gW (.block _ _); refine W.block ?_)
      | (guard_target =~ gW .skip; refine W.skip ?_)
      | (guard_target =~ gW (.exit _); refine W.exit ?_)
      | (guard_target =~ gW .ret; refine W.ret ?_)
      | (guard_target =~ gT .normal; refine thn_normal ?_)
      | (guard_target =~ gT (.exit _); refine thn_exit ?_)
      | (guard_target =~ gT .ret; refine thn_ret ?_)
      | (guard_target =~ gI .normal; refine inb_normal ?_)
      | (guard_target =~ gI (.exit _); first | refine inb_hit ?_ | refine inb_miss rfl ?_)
      | (guard_target =~ gI .ret; refine inb_ret ?_)))
  refine WU.stp rfl rfl rfl (stp_call rfl (c_isBasic 2 hx)) ?_
  rintro _ w2 ⟨rfl, rfl⟩
  (repeat (first
      | (guard_target =~ gU _; first
          | (guard_target =~ gU []; first | refine WU.nilk ?_ | refine WU.nil ?_)
          | refine WU.yld rfl rfl rfl (by first | (guard_target =~ gY (.move _); exact ze rfl) | (guard_target =~ gY (.assign _); exact yf rfl) | (guard_target =~ gY (.load _ _); first | exact za rfl rfl | exact zb rfl) | (guard_target =~ gY (.fieldAddr _ _ _); exact yt rfl) | (guard_target =~ gY (.nilCheck _); first | exact zq rfl | exact zr rfl) | (guard_target =~ gY (.extract _ _); exact ys rfl rfl) | (guard_target =~ gY (.typeAssert _ _ _ true); first | exact ye rfl rfl | exact yd rfl rfl (by first | rfl | assumption) | exact yc rfl rfl) | (guard_target =~ gY (.typeAssert _ _ _ false); exact yb rfl rfl) | (guard_target =~ gY (.makeInterface _ _); exact zd rfl rfl) | (guard_target =~ gY (.pick _ _ _); first | exact zv rfl rfl | exact zu rfl rfl | exact zt rfl rfl rfl) | (guard_target =~ gY (.binOp .neq _ _ _ _); first | exact zj rfl rfl | exact zn rfl rfl | exact zm rfl rfl | exact zg rfl rfl | exact zh rfl rfl | exact zl rfl rfl | exact zf rfl rfl | exact zp rfl rfl | exact zk rfl rfl | exact zo rfl rfl | exact zi (by first | decide | assumption) rfl rfl) | (guard_target =~ gY (.binOp .eql _ _ _ _); first | exact yl rfl rfl | exact yp rfl rfl | exact yo rfl rfl | exact yi rfl rfl | exact yj rfl rfl | exact yn rfl rfl | exact yh rfl rfl | exact yr rfl rfl | exact ym rfl rfl | exact yq rfl rfl | exact yk (by first | decide | assumption) rfl rfl) | (guard_target =~ gY (.unOp .not _ _); exact zs rfl) | (guard_target =~ gY (.binOp .lss _ _ _ _); exact zc rfl rfl) | (guard_target =~ gY (.binOp .leq _ _ _ _); exact yz rfl rfl) | (guard_target =~ gY (.binOp .gtr _ _ _ _); exact yv rfl rfl) | (guard_target =~ gY (.binOp .geq _ _ _ _); exact yu rfl rfl) | (guard_target =~ gY (.binOp .add _ _ _ _); exact ya rfl rfl (by omega)) | (guard_target =~ gY (.binOp .sub _ _ _ _); exact zw rfl rfl (by omega)) | (guard_target =~ gY (.call _); first | exact yx rfl | exact yy rfl) | (guard_target =~ gY (.build _ _); exact yg rfl rfl) | (guard_target =~ gY (.indexAddr _ _ _); exact yw rfl rfl (by omega) (by omega))) ?_
          | refine WU.skip rfl rfl rfl ?_)
      | (guard_target =~ gW (.seq _ _); refine W.seq ?_)
      | (guard_target =~ gW (.region _ _ false); refine W.reg ?_)
      | (guard_target =~ gW (.cond _ _ _); first | refine W.cond_t rfl ?_ | refine W.cond_f rfl ?_)
      | (guard_target =~ gW (.block _ _); refine W.block ?_)
      | (guard_target =~ gW .skip; refine W.skip ?_)
      | (guard_target =~ gW (.exit _); refine W.exit ?_)
      | (guard_target =~ gW .ret; refine W.ret ?_)
      | (guard_target =~ gT .normal; refine thn_normal ?_)
      | (guard_target =~ gT (.exit _); refine thn_exit ?_)
      | (guard_target =~ gT .ret; refine thn_ret ?_)
      | (guard_target =~ gI .normal; refine inb_normal ?_)
      | (guard_target =~ gI (.exit _); first | refine inb_hit ?_ | refine inb_miss rfl ?_)
      | (guard_target =~ gI .ret; refine inb_ret ?_)))
  exact fin1 (.inl rfl) rfl rfl ⟨rfl, rfl⟩

theorem c_isString {x : GT} {v : Value} {w : World} (hx : Rep w v x) :
    Calls Tryz.prog 74 #[v] w (Ret fun r w' => r = .bool (isBas 32 x) ∧ w = w') := by
  refine W.enter (args := [v]) Tryz.func74 rfl Tryz.ntmps74 rfl rfl ?_
  (repeat (first
      | (guard_target =~ gU _; first
          | (guard_target =~ gU []; first | refine WU.nilk ?_ | refine WU.nil ?_)
          | refine WU.yld rfl rfl rfl (by first | (guard_target =~ gY (.move _); exact ze rfl) | (guard_target =~ gY (.assign _); exact yf rfl) | (guard_target =~ gY (.load _ _); first | exact za rfl rfl | exact zb rfl) | (guard_target =~ gY (.fieldAddr _ _ _); exact yt rfl) | (guard_target =~ gY (.nilCheck _); first | exact zq rfl | exact zr rfl) | (guard_target =~ gY (.extract _ _); exact ys rfl rfl) | (guard_target =~ gY (.typeAssert _ _ _ true); first | exact ye rfl rfl | exact yd rfl rfl (by first | rfl | assumption) | exact yc rfl rfl) | (guard_target =~ gY (.typeAssert _ _ _ false); exact yb rfl rfl) | (guard_target =~ gY (.makeInterface _ _); exact zd rfl rfl) | (guard_target =~ gY (.pick _ _ _); first | exact zv rfl rfl | exact zu rfl rfl | exact zt rfl rfl rfl) | (guard_target =~ gY (.binOp .neq _ _ _ _); first | exact zj rfl rfl | exact zn rfl rfl | exact zm rfl rfl | exact zg rfl rfl | exact zh rfl rfl | exact zl rfl rfl | exact zf rfl rfl | exact zp rfl rfl | exact zk rfl rfl | exact zo rfl rfl | exact zi (by first | decide | assumption) rfl rfl) | (guard_target =~ gY (.binOp .eql _ _ _ _); first | exact yl rfl rfl | exact yp rfl rfl | exact yo rfl rfl | exact yi rfl rfl | exact yj rfl rfl | exact yn rfl rfl | exact yh rfl rfl | exact yr rfl rfl | exact ym rfl rfl | exact yq rfl rfl | exact yk (by first | decide | assumption) rfl rfl) | (guard_target =~ gY (.unOp .not _ _); exact zs rfl) | (guard_target =~ gY (.binOp .lss _ _ _ _); exact zc rfl rfl) | (guard_target =~ gY (.binOp .leq _ _ _ _); exact yz rfl rfl) | (guard_target =~ gY (.binOp .gtr _ _ _ _); exact yv rfl rfl) | (guard_target =~ gY (.binOp .geq _ _ _ _); exact yu rfl rfl) | (guard_target =~ gY (.binOp .add _ _ _ _); exact ya rfl rfl (by omega)) | (guard_target =~ gY (.binOp .sub _ _ _ _); exact zw rfl rfl (by omega)) | (guard_target =~ gY (.call _); first | exact yx rfl | exact yy rfl) | (guard_target =~ gY (.build _ _); exact yg rfl rfl) | (guard_target =~ gY (.indexAddr _ _ _); exact yw rfl rfl (by omega) (by omega))) ?_
          | refine WU.skip rfl rfl rfl ?_)
      | (guard_target =~ gW (.seq _ _); refine W.seq ?_)
      | (guard_target =~ gW (.region _ _ false); refine W.reg ?_)
      | (guard_target =~ gW (.cond _ _ _); first | refine W.cond_t rfl ?_ | refine W.cond_f rfl ?_)
      | (guard_target =~ gW (.block _ _); refine W.block ?_)
      | (guard_target =~ gW .skip; refine W.skip ?_)
      | (guard_target =~ gW (.exit _); refine W.exit ?_)
      | (guard_target =~ gW .ret; refine W.ret ?_)
      | (guard_target =~ gT .normal; refine thn_normal ?_)
      | (guard_target =~ gT (.exit _); refine thn_exit ?_)
      | (guard_target =~ gT .ret; refine thn_ret ?_)
      | (guard_target =~ gI .normal; refine inb_normal ?_)
      | (guard_target =~ gI (.exit _); first | refine inb_hit ?_ | refine inb_miss rfl ?_)
      | (guard_target =~ gI .ret; refine inb_ret ?_)))
  refine WU.stp rfl rfl rfl (stp_call rfl (c_isBasic 32 hx)) ?_
  rintro _ w2 ⟨rfl, rfl⟩
  (repeat (first
      | (guard_target =~ gU _; first
          | (guard_target =~ gU []; first | refine WU.nilk ?_ | refine WU.nil ?_)
          | refine WU.yld rfl rfl rfl (by first | (guard_target =~ gY (.move _); exact ze rfl) | (guard_target =~ gY (.assign _); exact yf rfl) | (guard_target =~ gY (.load _ _); first | exact za rfl rfl | exact zb rfl) | (guard_target =~ gY (.fieldAddr _ _ _); exact yt rfl) | (guard_target =~ gY (.nilCheck _); first | exact zq rfl | exact zr rfl) | (guard_target =~ gY (.extract _ _); exact ys rfl rfl) | (guard_target =~ gY (.typeAssert _ _ _ true); first | exact ye rfl rfl | exact yd rfl rfl (by first | rfl | assumption) | exact yc rfl rfl) | (guard_target =~ gY (.typeAssert _ _ _ false); exact yb rfl rfl) | (guard_target =~ gY (.makeInterface _ _); exact zd rfl rfl) | (guard_target =~ gY (.pick _ _ _); first | exact zv rfl rfl | exact zu rfl rfl | exact zt rfl rfl rfl) | (guard_target =~ gY (.binOp .neq _ _ _ _); first | exact zj rfl rfl | exact zn rfl rfl | exact zm rfl rfl | exact zg rfl rfl | exact zh rfl rfl | exact zl rfl rfl | exact zf rfl rfl | exact zp rfl rfl | exact zk rfl rfl | exact zo rfl rfl | exact zi (by first | decide | assumption) rfl rfl) | (guard_target =~ gY (.binOp .eql _ _ _ _); first | exact yl rfl rfl | exact yp rfl rfl | exact yo rfl rfl | exact yi rfl rfl | exact yj rfl rfl | exact yn rfl rfl | exact yh rfl rfl | exact yr rfl rfl | exact ym rfl rfl | exact yq rfl rfl | exact yk (by first | decide | assumption) rfl rfl) | (guard_target =~ gY (.unOp .not _ _); exact zs rfl) | (guard_target =~ gY (.binOp .lss _ _ _ _); exact zc rfl rfl) | (guard_target =~ gY (.binOp .leq _ _ _ _); exact yz rfl rfl) | (guard_target =~ gY (.binOp .gtr _ _ _ _); exact yv rfl rfl) | (guard_target =~ gY (.binOp .geq _ _ _ _); exact yu rfl rfl) | (guard_target =~ gY (.binOp .add _ _ _ _); exact ya rfl rfl (by omega)) | (guard_target =~ gY (.binOp .sub _ _ _ _); exact zw rfl rfl (by omega)) | (guard_target =~ gY (.call _); first | exact yx rfl | exact yy rfl) | (guard_target =~ gY (.build _ _); exact yg rfl rfl) | (guard_target =~ gY (.indexAddr _ _ _); exact yw rfl rfl (by omega) (by omega))) ?_
          | refine WU.skip rfl rfl rfl ?_)
      | (guard_target =~ gW (.seq _ _); refine W.seq ?_)
      | (guard_target =~ gW (.region _ _ false); refine W.reg ?_)
      | (guard_target =~ gW (.cond _ _ _); first | refine W.cond_t rfl ?_ | refine W.cond_f rfl ?_)
      | (guard_target =~ gW (.block _ _); refine W.block ?_)
      | (guard_target =~ gW .skip; refine W.skip ?_)
      | (guard_target =~ gW (.exit _); refine W.exit ?_)
      | (guard_target =~ gW .ret; refine W.ret ?_)
      | (guard_target =~ gT .normal; refine thn_normal ?_)
      | (guard_target =~ gT (.exit _); refine thn_exit ?_)
      | (guard_target =~ gT .ret; refine thn_ret ?_)
      | (guard_target =~ gI .normal; refine inb_normal ?_)
      | (guard_target =~ gI (.exit _); first | refine inb_hit ?_ | refine inb_miss rfl ?_)
      | (guard_target =~ gI .ret; refine inb_ret ?_)))
  exact fin1 (.inl rfl) rfl rfl ⟨rfl, rfl⟩

theorem c_isUintptr {x : GT} {v : Value} {w : World} (hx : Rep w v x) :
    Calls Tryz.prog 76 #[v] w (Ret fun r w' => r = .bool (isK 12 x) ∧ w = w') := by
  obtain ⟨b, rfl, hp⟩ := hx.shape
  by_cases hB : tagOf x = 50
  · cases x <;> try (simp [tagOf] at hB; done)
    rename_i k
    have hx' := hx
    cases hx with
    | basic _ hk h1 =>
    refine W.enter (args := [.iface 50 (.pointer (some ⟨b, 0, none⟩))]) Tryz.func76 rfl Tryz.ntmps76 rfl rfl ?_
    (repeat (first
        | (guard_target =~ gU _; first
            | (guard_target =~ gU []; first | refine WU.nilk ?_ | refine WU.nil ?_)
            | refine WU.yld rfl rfl rfl (by first | (guard_target =~ gY (.move _); exact ze rfl) | (guard_target =~ gY (.assign _); exact yf rfl) | (guard_target =~ gY (.load _ _); first | exact za rfl rfl | exact zb rfl) | (guard_target =~ gY (.fieldAddr _ _ _); exact yt rfl) | (guard_target =~ gY (.nilCheck _); first | exact zq rfl | exact zr rfl) | (guard_target =~ gY (.extract _ _); exact ys rfl rfl) | (guard_target =~ gY (.typeAssert _ _ _ true); first | exact ye rfl rfl | exact yd rfl rfl (by first | rfl | assumption) | exact yc rfl rfl) | (guard_target =~ gY (.typeAssert _ _ _ false); exact yb rfl rfl) | (guard_target =~ gY (.makeInterface _ _); exact zd rfl rfl) | (guard_target =~ gY (.pick _ _ _); first | exact zv rfl rfl | exact zu rfl rfl | exact zt rfl rfl rfl) | (guard_target =~ gY (.binOp .neq _ _ _ _); first | exact zj rfl rfl | exact zn rfl rfl | exact zm rfl rfl | exact zg rfl rfl | exact zh rfl rfl | exact zl rfl rfl | exact zf rfl rfl | exact zp rfl rfl | exact zk rfl rfl | exact zo rfl rfl | exact zi (by first | decide | assumption) rfl rfl) | (guard_target =~ gY (.binOp .eql _ _ _ _); first | exact yl rfl rfl | exact yp rfl rfl | exact yo rfl rfl | exact yi rfl rfl | exact yj rfl rfl | exact yn rfl rfl | exact yh rfl rfl | exact yr rfl rfl | exact ym rfl rfl | exact yq rfl rfl | exact yk (by first | decide | assumption) rfl rfl) | (guard_target =~ gY (.unOp .not _ _); exact zs rfl) | (guard_target =~ gY (.binOp .lss _ _ _ _); exact zc rfl rfl) | (guard_target =~ gY (.binOp .leq _ _ _ _); exact yz rfl rfl) | (guard_target =~ gY (.binOp .gtr _ _ _ _); exact yv rfl rfl) | (guard_target =~ gY (.binOp .geq _ _ _ _); exact yu rfl rfl) | (guard_target =~ gY (.binOp .add _ _ _ _); exact ya rfl rfl (by omega)) | (guard_target =~ gY (.binOp .sub _ _ _ _); exact zw rfl rfl (by omega)) | (guard_target =~ gY (.call _); first | exact yx rfl | exact yy rfl) | (guard_target =~ gY (.build _ _); exact yg rfl rfl) | (guard_target =~ gY (.indexAddr _ _ _); exact yw rfl rfl (by omega) (by omega))) ?_
            | refine WU.skip rfl rfl rfl ?_)
        | (guard_target =~ gW (.seq _ _); refine W.seq ?_)
        | (guard_target =~ gW (.region _ _ false); refine W.reg ?_)
        | (guard_target =~ gW (.cond _ _ _); first | refine W.cond_t rfl ?_ | refine W.cond_f rfl ?_)
        | (guard_target =~ gW (.block _ _); refine W.block ?_)
        | (guard_target =~ gW .skip; refine W.skip ?_)
        | (guard_target =~ gW (.exit _); refine W.exit ?_)
        | (guard_target =~ gW .ret; refine W.ret ?_)
        | (guard_target =~ gT .normal; refine thn_normal ?_)
        | (guard_target =~ gT (.exit _); refine thn_exit ?_)
        | (guard_target =~ gT .ret; refine thn_ret ?_)
        | (guard_target =~ gI .normal; refine inb_normal ?_)
        | (guard_target =~ gI (.exit _); first | refine inb_hit ?_ | refine inb_miss rfl ?_)
        | (guard_target =~ gI .ret; refine inb_ret ?_)))
    refine WU.stp rfl rfl rfl (stp_und hx' rfl) ?_
    rintro _ w2 ⟨rfl, rfl⟩
    (repeat (first
        | (guard_target =~ gU _; first
            | (guard_target =~ gU []; first | refine WU.nilk ?_ | refine WU.nil ?_)
            | refine WU.yld rfl rfl rfl (by first | (guard_target =~ gY (.move _); exact ze rfl) | (guard_target =~ gY (.assign _); exact yf rfl) | (guard_target =~ gY (.load _ _); first | exact za rfl rfl | exact zb rfl) | (guard_target =~ gY (.fieldAddr _ _ _); exact yt rfl) | (guard_target =~ gY (.nilCheck _); first | exact zq rfl | exact zr rfl) | (guard_target =~ gY (.extract _ _); exact ys rfl rfl) | (guard_target =~ gY (.typeAssert _ _ _ true); first | exact ye rfl rfl | exact yd rfl rfl (by first | rfl | assumption) | exact yc rfl rfl) | (guard_target =~ gY (.typeAssert _ _ _ false); exact yb rfl rfl) | (guard_target =~ gY (.makeInterface _ _); exact zd rfl rfl) | (guard_target =~ gY (.pick _ _ _); first | exact zv rfl rfl | exact zu rfl rfl | exact zt rfl rfl rfl) | (guard_target =~ gY (.binOp .neq _ _ _ _); first | exact zj rfl rfl | exact zn rfl rfl | exact zm rfl rfl | exact zg rfl rfl | exact zh rfl rfl | exact zl rfl rfl | exact zf rfl rfl | exact zp rfl rfl | exact zk rfl rfl | exact zo rfl rfl | exact zi (by first | decide | assumption) rfl rfl) | (guard_target =~ gY (.binOp .eql _ _ _ _); first | exact yl rfl rfl | exact yp rfl rfl | exact yo rfl rfl | exact yi rfl rfl | exact yj rfl rfl | exact yn rfl rfl | exact yh rfl rfl | exact yr rfl rfl | exact ym rfl rfl | exact yq rfl rfl | exact yk (by first | decide | assumption) rfl rfl) | (guard_target =~ gY (.unOp .not _ _); exact zs rfl) | (guard_target =~ gY (.binOp .lss _ _ _ _); exact zc rfl rfl) | (guard_target =~ gY (.binOp .leq _ _ _ _); exact yz rfl rfl) | (guard_target =~ gY (.binOp .gtr _ _ _ _); exact yv rfl rfl) | (guard_target =~ gY (.binOp .geq _ _ _ _); exact yu rfl rfl) | (guard_target =~ gY (.binOp .add _ _ _ _); exact ya rfl rfl (by omega)) | (guard_target =~ gY (.binOp .sub _ _ _ _); exact zw rfl rfl (by omega)) | (guard_target =~ gY (.call _); first | exact yx rfl | exact yy rfl) | (guard_target =~ gY (.build _ _); exact yg rfl rfl) | (guard_target =~ gY (.indexAddr _ _ _); exact yw rfl rfl (by omega) (by omega))) ?_
            | refine WU.skip rfl rfl rfl ?_)
        | (guard_target =~ gW (.seq _ _); refine W.seq ?_)
        | (guard_target =~ gW (.region _ _ false); refine W.reg ?_)
        | (guard_target =~ gW (.cond _ _ _); first | refine W.cond_t rfl ?_ | refine W.cond_f rfl ?_)
        | (guard_target =~ gW (.block _ _); refine W.block ?_)
        | (guard_target =~ gW .skip; refine W.skip ?_)
        | (guard_target =~ gW (.exit _); refine W.exit ?_)
        | (guard_target =~ gW .ret; refine W.ret ?_)
        | (guard_target =~ gT .normal; refine thn_normal ?_)
        | (guard_target =~ gT (.exit _); refine thn_exit ?_)
        | (guard_target =~ gT .ret; refine thn_ret ?_)
        | (guard_target =~ gI .normal; refine inb_normal ?_)
        | (guard_target =~ gI (.exit _); first | refine inb_hit ?_ | refine inb_miss rfl ?_)
        | (guard_target =~ gI .ret; refine inb_ret ?_)))
    exact fin1 (.inl rfl) rfl rfl ⟨rfl, rfl⟩
  · have hT := beq_no hB
    have hb : isK 12 x = false := by cases x <;> first | rfl | exact absurd rfl hB
    rw [hb]
    refine W.enter (args := [.iface (tagOf x) (.pointer (some ⟨b, 0, none⟩))]) Tryz.func76 rfl Tryz.ntmps76 rfl rfl ?_
    (repeat (first
        | (guard_target =~ gU _; first
            | (guard_target =~ gU []; first | refine WU.nilk ?_ | refine WU.nil ?_)
            | refine WU.yld rfl rfl rfl (by first | (guard_target =~ gY (.move _); exact ze rfl) | (guard_target =~ gY (.assign _); exact yf rfl) | (guard_target =~ gY (.load _ _); first | exact za rfl rfl | exact zb rfl) | (guard_target =~ gY (.fieldAddr _ _ _); exact yt rfl) | (guard_target =~ gY (.nilCheck _); first | exact zq rfl | exact zr rfl) | (guard_target =~ gY (.extract _ _); exact ys rfl rfl) | (guard_target =~ gY (.typeAssert _ _ _ true); first | exact ye rfl rfl | exact yd rfl rfl (by first | rfl | assumption) | exact yc rfl rfl) | (guard_target =~ gY (.typeAssert _ _ _ false); exact yb rfl rfl) | (guard_target =~ gY (.makeInterface _ _); exact zd rfl rfl) | (guard_target =~ gY (.pick _ _ _); first | exact zv rfl rfl | exact zu rfl rfl | exact zt rfl rfl rfl) | (guard_target =~ gY (.binOp .neq _ _ _ _); first | exact zj rfl rfl | exact zn rfl rfl | exact zm rfl rfl | exact zg rfl rfl | exact zh rfl rfl | exact zl rfl rfl | exact zf rfl rfl | exact zp rfl rfl | exact zk rfl rfl | exact zo rfl rfl | exact zi (by first | decide | assumption) rfl rfl) | (guard_target =~ gY (.binOp .eql _ _ _ _); first | exact yl rfl rfl | exact yp rfl rfl | exact yo rfl rfl | exact yi rfl rfl | exact yj rfl rfl | exact yn rfl rfl | exact yh rfl rfl | exact yr rfl rfl | exact ym rfl rfl | exact yq rfl rfl | exact yk (by first | decide | assumption) rfl rfl) | (guard_target =~ gY (.unOp .not _ _); exact zs rfl) | (guard_target =~ gY (.binOp .lss _ _ _ _); exact zc rfl rfl) | (guard_target =~ gY (.binOp .leq _ _ _ _); exact yz rfl rfl) | (guard_target =~ gY (.binOp .gtr _ _ _ _); exact yv rfl rfl) | (guard_target =~ gY (.binOp .geq _ _ _ _); exact yu rfl rfl) | (guard_target =~ gY (.binOp .add _ _ _ _); exact ya rfl rfl (by omega)) | (guard_target =~ gY (.binOp .sub _ _ _ _); exact zw rfl rfl (by omega)) | (guard_target =~ gY (.call _); first | exact yx rfl | exact yy rfl) | (guard_target =~ gY (.build _ _); exact yg rfl rfl) | (guard_target =~ gY (.indexAddr _ _ _); exact yw rfl rfl (by omega) (by omega))) ?_
            | refine WU.skip rfl rfl rfl ?_)
        | (guard_target =~ gW (.seq _ _); refine W.seq ?_)
        | (guard_target =~ gW (.region _ _ false); refine W.reg ?_)
        | (guard_target =~ gW (.cond _ _ _); first | refine W.cond_t rfl ?_ | refine W.cond_f rfl ?_)
        | (guard_target =~ gW (.block _ _); refine W.block ?_)
        | (guard_target =~ gW .skip; refine W.skip ?_)
        | (guard_target =~ gW (.exit _); refine W.exit ?_)
        | (guard_target =~ gW .ret; refine W.ret ?_)
        | (guard_target =~ gT .normal; refine thn_normal ?_)
        | (guard_target =~ gT (.exit _); refine thn_exit ?_)
        | (guard_target =~ gT .ret; refine thn_ret ?_)
        | (guard_target =~ gI .normal; refine inb_normal ?_)
        | (guard_target =~ gI (.exit _); first | refine inb_hit ?_ | refine inb_miss rfl ?_)
        | (guard_target =~ gI .ret; refine inb_ret ?_)))
    refine WU.stp rfl rfl rfl (stp_und hx rfl) ?_
    rintro _ w2 ⟨rfl, rfl⟩
    (repeat (first
        | (guard_target =~ gU _; first
            | (guard_target =~ gU []; first | refine WU.nilk ?_ | refine WU.nil ?_)
            | refine WU.yld rfl rfl rfl (by first | (guard_target =~ gY (.move _); exact ze rfl) | (guard_target =~ gY (.assign _); exact yf rfl) | (guard_target =~ gY (.load _ _); first | exact za rfl rfl | exact zb rfl) | (guard_target =~ gY (.fieldAddr _ _ _); exact yt rfl) | (guard_target =~ gY (.nilCheck _); first | exact zq rfl | exact zr rfl) | (guard_target =~ gY (.extract _ _); exact ys rfl rfl) | (guard_target =~ gY (.typeAssert _ _ _ true); first | exact ye rfl rfl | exact yd rfl rfl (by first | rfl | assumption) | exact yc rfl rfl) | (guard_target =~ gY (.typeAssert _ _ _ false); exact yb rfl rfl) | (guard_target =~ gY (.makeInterface _ _); exact zd rfl rfl) | (guard_target =~ gY (.pick _ _ _); first | exact zv rfl rfl | exact zu rfl rfl | exact zt rfl rfl rfl) | (guard_target =~ gY (.binOp .neq _ _ _ _); first | exact zj rfl rfl | exact zn rfl rfl | exact zm rfl rfl | exact zg rfl rfl | exact zh rfl rfl | exact zl rfl rfl | exact zf rfl rfl | exact zp rfl rfl | exact zk rfl rfl | exact zo rfl rfl | exact zi (by first | decide | assumption) rfl rfl) | (guard_target =~ gY (.binOp .eql _ _ _ _); first | exact yl rfl rfl | exact yp rfl rfl | exact yo rfl rfl | exact yi rfl rfl | exact yj rfl rfl | exact yn rfl rfl | exact yh rfl rfl | exact yr rfl rfl | exact ym rfl rfl | exact yq rfl rfl | exact yk (by first | decide | assumption) rfl rfl) | (guard_target =~ gY (.unOp .not _ _); exact zs rfl) | (guard_target =~ gY (.binOp .lss _ _ _ _); exact zc rfl rfl) | (guard_target =~ gY (.binOp .leq _ _ _ _); exact yz rfl rfl) | (guard_target =~ gY (.binOp .gtr _ _ _ _); exact yv rfl rfl) | (guard_target =~ gY (.binOp .geq _ _ _ _); exact yu rfl rfl) | (guard_target =~ gY (.binOp .add _ _ _ _); exact ya rfl rfl (by omega)) | (guard_target =~ gY (.binOp .sub _ _ _ _); exact zw rfl rfl (by omega)) | (guard_target =~ gY (.call _); first | exact yx rfl | exact yy rfl) | (guard_target =~ gY (.build _ _); exact yg rfl rfl) | (guard_target =~ gY (.indexAddr _ _ _); exact yw rfl rfl (by omega) (by omega))) ?_
            | refine WU.skip rfl rfl rfl ?_)
        | (guard_target =~ gW (.seq _ _); refine W.seq ?_)
        | (guard_target =~ gW (.region _ _ false); refine W.reg ?_)
        | (guard_target =~ gW (.cond _ _ _); first | refine W.cond_t rfl ?_ | refine W.cond_f rfl ?_)
        | (guard_target =~ gW (.block _ _); refine W.block ?_)
        | (guard_target =~ gW .skip; refine W.skip ?_)
        | (guard_target =~ gW (.exit _); refine W.exit ?_)
        | (guard_target =~ gW .ret; refine W.ret ?_)
        | (guard_target =~ gT .normal; refine thn_normal ?_)
        | (guard_target =~ gT (.exit _); refine thn_exit ?_)
        | (guard_target =~ gT .ret; refine thn_ret ?_)
        | (guard_target =~ gI .normal; refine inb_normal ?_)
        | (guard_target =~ gI (.exit _); first | refine inb_hit ?_ | refine inb_miss rfl ?_)
        | (guard_target =~ gI .ret; refine inb_ret ?_)))
    exact fin1 (.inl rfl) rfl rfl ⟨rfl, rfl⟩

theorem c_isUnsafePointer {x : GT} {v : Value} {w : World} (hx : Rep w v x) :
    Calls Tryz.prog 77 #[v] w (Ret fun r w' => r = .bool (isK 18 x) ∧ w = w') := by
  obtain ⟨b, rfl, hp⟩ := hx.shape
  by_cases hB : tagOf x = 50
  · cases x <;> try (simp [tagOf] at hB; done)
    rename_i k
    have hx' := hx
    cases hx with
    | basic _ hk h1 =>
    refine W.enter (args := [.iface 50 (.pointer (some ⟨b, 0, none⟩))]) Tryz.func77 rfl Tryz.ntmps77 rfl rfl ?_
    (repeat (first
        | (guard_target =~ gU _; first
            | (guard_target =~ gU []; first | refine WU.nilk ?_ | refine WU.nil ?_)
            | refine WU.yld rfl rfl rfl (by first | (guard_target =~ gY (.move _); exact ze rfl) | (guard_target =~ gY (.assign _); exact yf rfl) | (guard_target =~ gY (.load _ _); first | exact za rfl rfl | exact zb rfl) | (guard_target =~ gY (.fieldAddr _ _ _); exact yt rfl) | (guard_target =~ gY (.nilCheck _); first | exact zq rfl | exact zr rfl) | (guard_target =~ gY (.extract _ _); exact ys rfl rfl) | (guard_target =~ gY (.typeAssert _ _ _ true); first | exact ye rfl rfl | exact yd rfl rfl (by first | rfl | assumption) | exact yc rfl rfl) | (guard_target =~ gY (.typeAssert _ _ _ false); exact yb rfl rfl) | (guard_target =~ gY (.makeInterface _ _); exact zd rfl rfl) | (guard_target =~ gY (.pick _ _ _); first | exact zv rfl rfl | exact zu rfl rfl | exact zt rfl rfl rfl) | (guard_target =~ gY (.binOp .neq _ _ _ _); first | exact zj rfl rfl | exact zn rfl rfl | exact zm rfl rfl | exact zg rfl rfl | exact zh rfl rfl | exact zl rfl rfl | exact zf rfl rfl | exact zp rfl rfl | exact zk rfl rfl | exact zo rfl rfl | exact zi (by first | decide | assumption) rfl rfl) | (guard_target =~ gY (.binOp .eql _ _ _ _); first | exact yl rfl rfl | exact yp rfl rfl | exact yo rfl rfl | exact yi rfl rfl | exact yj rfl rfl | exact yn rfl rfl | exact yh rfl rfl | exact yr rfl rfl | exact ym rfl rfl | exact yq rfl rfl | exact yk (by first | decide | assumption) rfl rfl) | (guard_target =~ gY (.unOp .not _ _); exact zs rfl) | (guard_target =~ gY (.binOp .lss _ _ _ _); exact zc rfl rfl) | (guard_target =~ gY (.binOp .leq _ _ _ _); exact yz rfl rfl) | (guard_target =~ gY (.binOp .gtr _ _ _ _); exact yv rfl rfl) | (guard_target =~ gY (.binOp .geq _ _ _ _); exact yu rfl rfl) | (guard_target =~ gY (.binOp .add _ _ _ _); exact ya rfl rfl (by omega)) | (guard_target =~ gY (.binOp .sub _ _ _ _); exact zw rfl rfl (by omega)) | (guard_target =~ gY (.call _); first | exact yx rfl | exact yy rfl) | (guard_target =~ gY (.build _ _); exact yg rfl rfl) | (guard_target =~ gY (.indexAddr _ _ _); exact yw rfl rfl (by omega) (by omega))) ?_
            | refine WU.skip rfl rfl rfl ?_)
        | (guard_target =~ gW (.seq _ _); refine W.seq ?_)
        | (guard_target =~ gW (.region _ _ false); refine W.reg ?_)
        | (guard_target =~ gW (.cond _ _ _); first | refine W.cond_t rfl ?_ | refine W.cond_f rfl ?_)
        | (guard_target =~ gW (.block _ _); refine W.block ?_)
        | (guard_target =~ gW .skip; refine W.skip ?_)
        | (guard_target =~ gW (.exit _); refine W.exit ?_)
        | (guard_target =~ gW .ret; refine W.ret ?_)
        | (guard_target =~ gT .normal; refine thn_normal ?_)
        | (guard_target =~ gT (.exit _); refine thn_exit ?_)
        | (guard_target =~ gT .ret; refine thn_ret ?_)
        | (guard_target =~ gI .normal; refine inb_normal ?_)
        | (guard_target =~ gI (.exit _); first | refine inb_hit ?_ | refine inb_miss rfl ?_)
        | (guard_target =~ gI .ret; refine inb_ret ?_)))
    refine WU.stp rfl rfl rfl (stp_und hx' rfl) ?_
    rintro _ w2 ⟨rfl, rfl⟩
    (repeat (first
        | (guard_target =~ gU _; first
            | (guard_target =~ gU []; first | refine WU.nilk ?_ | refine WU.nil ?_)
            | refine WU.yld rfl rfl rfl (by first | (guard_target =~ gY (.move _); exact ze rfl) | (guard_target =~ gY (.assign _); exact yf rfl) | (guard_target =~ gY (.load _ _); first | exact za rfl rfl | exact zb rfl) | (guard_target =~ gY (.fieldAddr _ _ _); exact yt rfl) | (guard_target =~ gY (.nilCheck _); first | exact zq rfl | exact zr rfl) | (guard_target =~ gY (.extract _ _); exact ys rfl rfl) | (guard_target =~ gY (.typeAssert _ _ _ true); first | exact ye rfl rfl | exact yd rfl rfl (by first | rfl | assumption) | exact yc rfl rfl) | (guard_target =~ gY (.typeAssert _ _ _ false); exact yb rfl rfl) | (guard_target =~ gY (.makeInterface _ _); exact zd rfl rfl) | (guard_target =~ gY (.pick _ _ _); first | exact zv rfl rfl | exact zu rfl rfl | exact zt rfl rfl rfl) | (guard_target =~ gY (.binOp .neq _ _ _ _); first | exact zj rfl rfl | exact zn rfl rfl | exact zm rfl rfl | exact zg rfl rfl | exact zh rfl rfl | exact zl rfl rfl | exact zf rfl rfl | exact zp rfl rfl | exact zk rfl rfl | exact zo rfl rfl | exact zi (by first | decide | assumption) rfl rfl) | (guard_target =~ gY (.binOp .eql _ _ _ _); first | exact yl rfl rfl | exact yp rfl rfl | exact yo rfl rfl | exact yi rfl rfl | exact yj rfl rfl | exact yn rfl rfl | exact yh rfl rfl | exact yr rfl rfl | exact ym rfl rfl | exact yq rfl rfl | exact yk (by first | decide | assumption) rfl rfl) | (guard_target =~ gY (.unOp .not _ _); exact zs rfl) | (guard_target =~ gY (.binOp .lss _ _ _ _); exact zc rfl rfl) | (guard_target =~ gY (.binOp .leq _ _ _ _); exact yz rfl rfl) | (guard_target =~ gY (.binOp .gtr _ _ _ _); exact yv rfl rfl) | (guard_target =~ gY (.binOp .geq _ _ _ _); exact yu rfl rfl) | (guard_target =~ gY (.binOp .add _ _ _ _); exact ya rfl rfl (by omega)) | (guard_target =~ gY (.binOp .sub _ _ _ _); exact zw rfl rfl (by omega)) | (guard_target =~ gY (.call _); first | exact yx rfl | exact yy rfl) | (guard_target =~ gY (.build _ _); exact yg rfl rfl) | (guard_target =~ gY (.indexAddr _ _ _); exact yw rfl rfl (by omega) (by omega))) ?_
            | refine WU.skip rfl rfl rfl ?_)
        | (guard_target =~ gW (.seq _ _); refine W.seq ?_)
        | (guard_target =~ gW (.region _ _ false); refine W.reg ?_)
        | (guard_target =~ gW (.cond _ _ _); first | refine W.cond_t rfl ?_ | refine W.cond_f rfl ?_)
        | (guard_target =~ gW (.block _ _); refine W.block ?_)
        | (guard_target =~ gW .skip; refine W.skip ?_)
        | (guard_target =~ gW (.exit _); refine W.exit ?_)
        | (guard_target =~ gW .ret; refine W.ret ?_)
        | (guard_target =~ gT .normal; refine thn_normal ?_)
        | (guard_target =~ gT (.exit _); refine thn_exit ?_)
        | (guard_target =~ gT .ret; refine thn_ret ?_)
        | (guard_target =~ gI .normal; refine inb_normal ?_)
        | (guard_target =~ gI (.exit _); first | refine inb_hit ?_ | refine inb_miss rfl ?_)
        | (guard_target =~ gI .ret; refine inb_ret ?_)))
    exact fin1 (.inl rfl) rfl rfl ⟨rfl, rfl⟩
  · have hT := beq_no hB
    have hb : isK 18 x = false := by cases x <;> first | rfl | exact absurd rfl hB
    rw [hb]
    refine W.enter (args := [.iface (tagOf x) (.pointer (some ⟨b, 0, none⟩))]) Tryz.func77 rfl Tryz.ntmps77 rfl rfl ?_
    (repeat (first
        | (guard_target =~ gU _; first
            | (guard_target =~ gU []; first | refine WU.nilk ?_ | refine WU.nil ?_)
            | refine WU.yld rfl rfl rfl (by first | (guard_target =~ gY (.move _); exact ze rfl) | (guard_target =~ gY (.assign _); exact yf rfl) | (guard_target =~ gY (.load _ _); first | exact za rfl rfl | exact zb rfl) | (guard_target =~ gY (.fieldAddr _ _ _); exact yt rfl) | (guard_target =~ gY (.nilCheck _); first | exact zq rfl | exact zr rfl) | (guard_target =~ gY (.extract _ _); exact ys rfl rfl) | (guard_target =~ gY (.typeAssert _ _ _ true); first | exact ye rfl rfl | exact yd rfl rfl (by first | rfl | assumption) | exact yc rfl rfl) | (guard_target =~ gY (.typeAssert _ _ _ false); exact yb rfl rfl) | (guard_target =~ gY (.makeInterface _ _); exact zd rfl rfl) | (guard_target =~ gY (.pick _ _ _); first | exact zv rfl rfl | exact zu rfl rfl | exact zt rfl rfl rfl) | (guard_target =~ gY (.binOp .neq _ _ _ _); first | exact zj rfl rfl | exact zn rfl rfl | exact zm rfl rfl | exact zg rfl rfl | exact zh rfl rfl | exact zl rfl rfl | exact zf rfl rfl | exact zp rfl rfl | exact zk rfl rfl | exact zo rfl rfl | exact zi (by first | decide | assumption) rfl rfl) | (guard_target =~ gY (.binOp .eql _ _ _ _); first | exact yl rfl rfl | exact yp rfl rfl | exact yo rfl rfl | exact yi rfl rfl | exact yj rfl rfl | exact yn rfl rfl | exact yh rfl rfl | exact yr rfl rfl | exact ym rfl rfl | exact yq rfl rfl | exact yk (by first | decide | assumption) rfl rfl) | (guard_target =~ gY (.unOp .not _ _); exact zs rfl) | (guard_target =~ gY (.binOp .lss _ _ _ _); exact zc rfl rfl) | (guard_target =~ gY (.binOp .leq _ _ _ _); exact yz rfl rfl) | (guard_target =~ gY (.binOp .gtr _ _ _ _); exact yv rfl rfl) | (guard_target =~ gY (.binOp .geq _ _ _ _); exact yu rfl rfl) | (guard_target =~ gY (.binOp .add _ _ _ _); exact ya rfl rfl (by omega)) | (guard_target =~ gY (.binOp .sub _ _ _ _); exact zw rfl rfl (by omega)) | (guard_target =~ gY (.call _); first | exact yx rfl | exact yy rfl) | (guard_target =~ gY (.build _ _); exact yg rfl rfl) | (guard_target =~ gY (.indexAddr _ _ _); exact yw rfl rfl (by omega) (by omega))) ?_
            | refine WU.skip rfl rfl rfl ?_)
        | (guard_target =~ gW (.seq _ _); refine W.seq ?_)
        | (guard_target =~ gW (.region _ _ false); refine W.reg ?_)
        | (guard_target =~ gW (.cond _ _ _); first | refine W.cond_t rfl ?_ | refine W.cond_f rfl ?_)
        | (guard_target =~ gW (.block _ _); refine W.block ?_)
        | (guard_target =~ gW .skip; refine W.skip ?_)
        | (guard_target =~ gW (.exit _); refine W.exit ?_)
        | (guard_target =~ gW .ret; refine W.ret ?_)
        | (guard_target =~ gT .normal; refine thn_normal ?_)
        | (guard_target =~ gT (.exit _); refine thn_exit ?_)
        | (guard_target =~ gT .ret; refine thn_ret ?_)
        | (guard_target =~ gI .normal; refine inb_normal ?_)
        | (guard_target =~ gI (.exit _); first | refine inb_hit ?_ | refine inb_miss rfl ?_)
        | (guard_target =~ gI .ret; refine inb_ret ?_)))
    refine WU.stp rfl rfl rfl (stp_und hx rfl) ?_
    rintro _ w2 ⟨rfl, rfl⟩
    (repeat (first
        | (guard_target =~ gU _; first
            | (guard_target =~ gU []; first | refine WU.nilk ?_ | refine WU.nil ?_)
            | refine WU.yld rfl rfl rfl (by first | (guard_target =~ gY (.move _); exact ze rfl) | (guard_target =~ gY (.assign _); exact yf rfl) | (guard_target =~ gY (.load _ _); first | exact za rfl rfl | exact zb rfl) | (guard_target =~ gY (.fieldAddr _ _ _); exact yt rfl) | (guard_target =~ gY (.nilCheck _); first | exact zq rfl | exact zr rfl) | (guard_target =~ gY (.extract _ _); exact ys rfl rfl) | (guard_target =~ gY (.typeAssert _ _ _ true); first | exact ye rfl rfl | exact yd rfl rfl (by first | rfl | assumption) | exact yc rfl rfl) | (guard_target =~ gY (.typeAssert _ _ _ false); exact yb rfl rfl) | (guard_target =~ gY (.makeInterface _ _); exact zd rfl rfl) | (guard_target =~ gY (.pick _ _ _); first | exact zv rfl rfl | exact zu rfl rfl | exact zt rfl rfl rfl) | (guard_target =~ gY (.binOp .neq _ _ _ _); first | exact zj rfl rfl | exact zn rfl rfl | exact zm rfl rfl | exact zg rfl rfl | exact zh rfl rfl | exact zl rfl rfl | exact zf rfl rfl | exact zp rfl rfl | exact zk rfl rfl | exact zo rfl rfl | exact zi (by first | decide | assumption) rfl rfl) | (guard_target =~ gY (.binOp .eql _ _ _ _); first | exact yl rfl rfl | exact yp rfl rfl | exact yo rfl rfl | exact yi rfl rfl | exact yj rfl rfl | exact yn rfl rfl | exact yh rfl rfl | exact yr rfl rfl | exact ym rfl rfl | exact yq rfl rfl | exact yk (by first | decide | assumption) rfl rfl) | (guard_target =~ gY (.unOp .not _ _); exact zs rfl) | (guard_target =~ gY (.binOp .lss _ _ _ _); exact zc rfl rfl) | (guard_target =~ gY (.binOp .leq _ _ _ _); exact yz rfl rfl) | (guard_target =~ gY (.binOp .gtr _ _ _ _); exact yv rfl rfl) | (guard_target =~ gY (.binOp .geq _ _ _ _); exact yu rfl rfl) | (guard_target =~ gY (.binOp .add _ _ _ _); exact ya rfl rfl (by omega)) | (guard_target =~ gY (.binOp .sub _ _ _ _); exact zw rfl rfl (by omega)) | (guard_target =~ gY (.call _); first | exact yx rfl | exact yy rfl) | (guard_target =~ gY (.build _ _); exact yg rfl rfl) | (guard_target =~ gY (.indexAddr _ _ _); exact yw rfl rfl (by omega) (by omega))) ?_
            | refine WU.skip rfl rfl rfl ?_)
        | (guard_target =~ gW (.seq _ _); refine W.seq ?_)
        | (guard_target =~ gW (.region _ _ false); refine W.reg ?_)
        | (guard_target =~ gW (.cond _ _ _); first | refine W.cond_t rfl ?_ | refine W.cond_f rfl ?_)
        | (guard_target =~ gW (.block _ _); refine W.block ?_)
        | (guard_target =~ gW .skip; refine W.skip ?_)
        | (guard_target =~ gW (.exit _); refine W.exit ?_)
        | (guard_target =~ gW .ret; refine W.ret ?_)
        | (guard_target =~ gT .normal; refine thn_normal ?_)
        | (guard_target =~ gT (.exit _); refine thn_exit ?_)
        | (guard_target =~ gT .ret; refine thn_ret ?_)
        | (guard_target =~ gI .normal; refine inb_normal ?_)
        | (guard_target =~ gI (.exit _); first | refine inb_hit ?_ | refine inb_miss rfl ?_)
        | (guard_target =~ gI .ret; refine inb_ret ?_)))
    exact fin1 (.inl rfl) rfl rfl ⟨rfl, rfl⟩

theorem c_isPointer {x : GT} {v : Value} {w : World} (hx : Rep w v x) :
    Calls Tryz.prog 75 #[v] w (Ret fun r w' => r = .bool (isPt x) ∧ w = w') := by
  obtain ⟨b, rfl, hp⟩ := hx.shape
  by_cases hB : tagOf x = 54
  · cases x <;> try (simp [tagOf] at hB; done)
    refine W.enter (args := [.iface 54 (.pointer (some ⟨b, 0, none⟩))]) Tryz.func75 rfl Tryz.ntmps75 rfl rfl ?_
    (repeat (first
        | (guard_target =~ gU _; first
            | (guard_target =~ gU []; first | refine WU.nilk ?_ | refine WU.nil ?_)
            | refine WU.yld rfl rfl rfl (by first | (guard_target =~ gY (.move _); exact ze rfl) | (guard_target =~ gY (.assign _); exact yf rfl) | (guard_target =~ gY (.load _ _); first | exact za rfl rfl | exact zb rfl) | (guard_target =~ gY (.fieldAddr _ _ _); exact yt rfl) | (guard_target =~ gY (.nilCheck _); first | exact zq rfl | exact zr rfl) | (guard_target =~ gY (.extract _ _); exact ys rfl rfl) | (guard_target =~ gY (.typeAssert _ _ _ true); first | exact ye rfl rfl | exact yd rfl rfl (by first | rfl | assumption) | exact yc rfl rfl) | (guard_target =~ gY (.typeAssert _ _ _ false); exact yb rfl rfl) | (guard_target =~ gY (.makeInterface _ _); exact zd rfl rfl) | (guard_target =~ gY (.pick _ _ _); first | exact zv rfl rfl | exact zu rfl rfl | exact zt rfl rfl rfl) | (guard_target =~ gY (.binOp .neq _ _ _ _); first | exact zj rfl rfl | exact zn rfl rfl | exact zm rfl rfl | exact zg rfl rfl | exact zh rfl rfl | exact zl rfl rfl | exact zf rfl rfl | exact zp rfl rfl | exact zk rfl rfl | exact zo rfl rfl | exact zi (by first | decide | assumption) rfl rfl) | (guard_target =~ gY (.binOp .eql _ _ _ _); first | exact yl rfl rfl | exact yp rfl rfl | exact yo rfl rfl | exact yi rfl rfl | exact yj rfl rfl | exact yn rfl rfl | exact yh rfl rfl | exact yr rfl rfl | exact ym rfl rfl | exact yq rfl rfl | exact yk (by first | decide | assumption) rfl rfl) | (guard_target =~ gY (.unOp .not _ _); exact zs rfl) | (guard_target =~ gY (.binOp .lss _ _ _ _); exact zc rfl rfl) | (guard_target =~ gY (.binOp .leq _ _ _ _); exact yz rfl rfl) | (guard_target =~ gY (.binOp .gtr _ _ _ _); exact yv rfl rfl) | (guard_target =~ gY (.binOp .geq _ _ _ _); exact yu rfl rfl) | (guard_target =~ gY (.binOp .add _ _ _ _); exact ya rfl rfl (by omega)) | (guard_target =~ gY (.binOp .sub _ _ _ _); exact zw rfl rfl (by omega)) | (guard_target =~ gY (.call _); first | exact yx rfl | exact yy rfl) | (guard_target =~ gY (.build _ _); exact yg rfl rfl) | (guard_target =~ gY (.indexAddr _ _ _); exact yw rfl rfl (by omega) (by omega))) ?_
            | refine WU.skip rfl rfl rfl ?_)
        | (guard_target =~ gW (.seq _ _); refine W.seq ?_)
        | (guard_target =~ gW (.region _ _ false); refine W.reg ?_)
        | (guard_target =~ gW (.cond _ _ _); first | refine W.cond_t rfl ?_ | refine W.cond_f rfl ?_)
        | (guard_target =~ gW (.block _ _); refine W.block ?_)
        | (guard_target =~ gW .skip; refine W.skip ?_)
        | (guard_target =~ gW (.exit _); refine W.exit ?_)
        | (guard_target =~ gW .ret; refine W.ret ?_)
        | (guard_target =~ gT .normal; refine thn_normal ?_)
        | (guard_target =~ gT (.exit _); refine thn_exit ?_)
        | (guard_target =~ gT .ret; refine thn_ret ?_)
        | (guard_target =~ gI .normal; refine inb_normal ?_)
        | (guard_target =~ gI (.exit _); first | refine inb_hit ?_ | refine inb_miss rfl ?_)
        | (guard_target =~ gI .ret; refine inb_ret ?_)))
    refine WU.stp rfl rfl rfl (stp_und hx rfl) ?_
    rintro _ w2 ⟨rfl, rfl⟩
    (repeat (first
        | (guard_target =~ gU _; first
            | (guard_target =~ gU []; first | refine WU.nilk ?_ | refine WU.nil ?_)
            | refine WU.yld rfl rfl rfl (by first | (guard_target =~ gY (.move _); exact ze rfl) | (guard_target =~ gY (.assign _); exact yf rfl) | (guard_target =~ gY (.load _ _); first | exact za rfl rfl | exact zb rfl) | (guard_target =~ gY (.fieldAddr _ _ _); exact yt rfl) | (guard_target =~ gY (.nilCheck _); first | exact zq rfl | exact zr rfl) | (guard_target =~ gY (.extract _ _); exact ys rfl rfl) | (guard_target =~ gY (.typeAssert _ _ _ true); first | exact ye rfl rfl | exact yd rfl rfl (by first | rfl | assumption) | exact yc rfl rfl) | (guard_target =~ gY (.typeAssert _ _ _ false); exact yb rfl rfl) | (guard_target =~ gY (.makeInterface _ _); exact zd rfl rfl) | (guard_target =~ gY (.pick _ _ _); first | exact zv rfl rfl | exact zu rfl rfl | exact zt rfl rfl rfl) | (guard_target =~ gY (.binOp .neq _ _ _ _); first | exact zj rfl rfl | exact zn rfl rfl | exact zm rfl rfl | exact zg rfl rfl | exact zh rfl rfl | exact zl rfl rfl | exact zf rfl rfl | exact zp rfl rfl | exact zk rfl rfl | exact zo rfl rfl | exact zi (by first | decide | assumption) rfl rfl) | (guard_target =~ gY (.binOp .eql _ _ _ _); first | exact yl rfl rfl | exact yp rfl rfl | exact yo rfl rfl | exact yi rfl rfl | exact yj rfl rfl | exact yn rfl rfl | exact yh rfl rfl | exact yr rfl rfl | exact ym rfl rfl | exact yq rfl rfl | exact yk (by first | decide | assumption) rfl rfl) | (guard_target =~ gY (.unOp .not _ _); exact zs rfl) | (guard_target =~ gY (.binOp .lss _ _ _ _); exact zc rfl rfl) | (guard_target =~ gY (.binOp .leq _ _ _ _); exact yz rfl rfl) | (guard_target =~ gY (.binOp .gtr _ _ _ _); exact yv rfl rfl) | (guard_target =~ gY (.binOp .geq _ _ _ _); exact yu rfl rfl) | (guard_target =~ gY (.binOp .add _ _ _ _); exact ya rfl rfl (by omega)) | (guard_target =~ gY (.binOp .sub _ _ _ _); exact zw rfl rfl (by omega)) | (guard_target =~ gY (.call _); first | exact yx rfl | exact yy rfl) | (guard_target =~ gY (.build _ _); exact yg rfl rfl) | (guard_target =~ gY (.indexAddr _ _ _); exact yw rfl rfl (by omega) (by omega))) ?_
            | refine WU.skip rfl rfl rfl ?_)
        | (guard_target =~ gW (.seq _ _); refine W.seq ?_)
        | (guard_target =~ gW (.region _ _ false); refine W.reg ?_)
        | (guard_target =~ gW (.cond _ _ _); first | refine W.cond_t rfl ?_ | refine W.cond_f rfl ?_)
        | (guard_target =~ gW (.block _ _); refine W.block ?_)
        | (guard_target =~ gW .skip; refine W.skip ?_)
        | (guard_target =~ gW (.exit _); refine W.exit ?_)
        | (guard_target =~ gW .ret; refine W.ret ?_)
        | (guard_target =~ gT .normal; refine thn_normal ?_)
        | (guard_target =~ gT (.exit _); refine thn_exit ?_)
        | (guard_target =~ gT .ret; refine thn_ret ?_)
        | (guard_target =~ gI .normal; refine inb_normal ?_)
        | (guard_target =~ gI (.exit _); first | refine inb_hit ?_ | refine inb_miss rfl ?_)
        | (guard_target =~ gI .ret; refine inb_ret ?_)))
    exact fin1 (.inl rfl) rfl rfl ⟨rfl, rfl⟩
  · have hT := beq_no hB
    have hb : isPt x = false := by cases x <;> first | rfl | exact absurd rfl hB
    rw [hb]
    refine W.enter (args := [.iface (tagOf x) (.pointer (some ⟨b, 0, none⟩))]) Tryz.func75 rfl Tryz.ntmps75 rfl rfl ?_
    (repeat (first
        | (guard_target =~ gU _; first
            | (guard_target =~ gU []; first | refine WU.nilk ?_ | refine WU.nil ?_)
            | refine WU.yld rfl rfl rfl (by first | (guard_target =~ gY (.move _); exact ze rfl) | (guard_target =~ gY (.assign _); exact yf rfl) | (guard_target =~ gY (.load _ _); first | exact za rfl rfl | exact zb rfl) | (guard_target =~ gY (.fieldAddr _ _ _); exact yt rfl) | (guard_target =~ gY (.nilCheck _); first | exact zq rfl | exact zr rfl) | (guard_target =~ gY (.extract _ _); exact ys rfl rfl) | (guard_target =~ gY (.typeAssert _ _ _ true); first | exact ye rfl rfl | exact yd rfl rfl (by first | rfl | assumption) | exact yc rfl rfl) | (guard_target =~ gY (.typeAssert _ _ _ false); exact yb rfl rfl) | (guard_target =~ gY (.makeInterface _ _); exact zd rfl rfl) | (guard_target =~ gY (.pick _ _ _); first | exact zv rfl rfl | exact zu rfl rfl | exact zt rfl rfl rfl) | (guard_target =~ gY (.binOp .neq _ _ _ _); first | exact zj rfl rfl | exact zn rfl rfl | exact zm rfl rfl | exact zg rfl rfl | exact zh rfl rfl | exact zl rfl rfl | exact zf rfl rfl | exact zp rfl rfl | exact zk rfl rfl | exact zo rfl rfl | exact zi (by first | decide | assumption) rfl rfl) | (guard_target =~ gY (.binOp .eql _ _ _ _); first | exact yl rfl rfl | exact yp rfl rfl | exact yo rfl rfl | exact yi rfl rfl | exact yj rfl rfl | exact yn rfl rfl | exact yh rfl rfl | exact yr rfl rfl | exact ym rfl rfl | exact yq rfl rfl | exact yk (by first | decide | assumption) rfl rfl) | (guard_target =~ gY (.unOp .not _ _); exact zs rfl) | (guard_target =~ gY (.binOp .lss _ _ _ _); exact zc rfl rfl) | (guard_target =~ gY (.binOp .leq _ _ _ _); exact yz rfl rfl) | (guard_target =~ gY (.binOp .gtr _ _ _ _); exact yv rfl rfl) | (guard_target =~ gY (.binOp .geq _ _ _ _); exact yu rfl rfl) | (guard_target =~ gY (.binOp .add _ _ _ _); exact ya rfl rfl (by omega)) | (guard_target =~ gY (.binOp .sub _ _ _ _); exact zw rfl rfl (by omega)) | (guard_target =~ gY (.call _); first | exact yx rfl | exact yy rfl) | (guard_target =~ gY (.build _ _); exact yg rfl rfl) | (guard_target =~ gY (.indexAddr _ _ _); exact yw rfl rfl (by omega) (by omega))) ?_
            | refine WU.skip rfl rfl rfl ?_)
        | (guard_target =~ gW (.seq _ _); refine W.seq ?_)
        | (guard_target =~ gW (.region _ _ false); refine W.reg ?_)
        | (guard_target =~ gW (.cond _ _ _); first | refine W.cond_t rfl ?_ | refine W.cond_f rfl ?_)
        | (guard_target =~ gW (.block _ _); refine W.block ?_)
        | (guard_target =~ gW .skip; refine W.skip ?_)
        | (guard_target =~ gW (.exit _); refine W.exit ?_)
        | (guard_target =~ gW .ret; refine W.ret ?_)
        | (guard_target =~ gT .normal; refine thn_normal ?_)
        | (guard_target =~ gT (.exit _); refine thn_exit ?_)
        | (guard_target =~ gT .ret; refine thn_ret ?_)
        | (guard_target =~ gI .normal; refine inb_normal ?_)
        | (guard_target =~ gI (.exit _); first | refine inb_hit ?_ | refine inb_miss rfl ?_)
        | (guard_target =~ gI .ret; refine inb_ret ?_)))
    refine WU.stp rfl rfl rfl (stp_und hx rfl) ?_
    rintro _ w2 ⟨rfl, rfl⟩
    (repeat (first
        | (guard_target =~ gU _; first
            | (guard_target =~ gU []; first | refine WU.nilk ?_ | refine WU.nil ?_)
            | refine WU.yld rfl rfl rfl (by first | (guard_target =~ gY (.move _); exact ze rfl) | (guard_target =~ gY (.assign _); exact yf rfl) | (guard_target =~ gY (.load _ _); first | exact za rfl rfl | exact zb rfl) | (guard_target =~ gY (.fieldAddr _ _ _); exact yt rfl) | (guard_target =~ gY (.nilCheck _); first | exact zq rfl | exact zr rfl) | (guard_target =~ gY (.extract _ _); exact ys rfl rfl) | (guard_target =~ gY (.typeAssert _ _ _ true); first | exact ye rfl rfl | exact yd rfl rfl (by first | rfl | assumption) | exact yc rfl rfl) | (guard_target =~ gY (.typeAssert _ _ _ false); exact yb rfl rfl) | (guard_target =~ gY (.makeInterface _ _); exact zd rfl rfl) | (guard_target =~ gY (.pick _ _ _); first | exact zv rfl rfl | exact zu rfl rfl | exact zt rfl rfl rfl) | (guard_target =~ gY (.binOp .neq _ _ _ _); first | exact zj rfl rfl | exact zn rfl rfl | exact zm rfl rfl | exact zg rfl rfl | exact zh rfl rfl | exact zl rfl rfl | exact zf rfl rfl | exact zp rfl rfl | exact zk rfl rfl | exact zo rfl rfl | exact zi (by first | decide | assumption) rfl rfl) | (guard_target =~ gY (.binOp .eql _ _ _ _); first | exact yl rfl rfl | exact yp rfl rfl | exact yo rfl rfl | exact yi rfl rfl | exact yj rfl rfl | exact yn rfl rfl | exact yh rfl rfl | exact yr rfl rfl | exact ym rfl rfl | exact yq rfl rfl | exact yk (by first | decide | assumption) rfl rfl) | (guard_target =~ gY (.unOp .not _ _); exact zs rfl) | (guard_target =~ gY (.binOp .lss _ _ _ _); exact zc rfl rfl) | (guard_target =~ gY (.binOp .leq _ _ _ _); exact yz rfl rfl) | (guard_target =~ gY (.binOp .gtr _ _ _ _); exact yv rfl rfl) | (guard_target =~ gY (.binOp .geq _ _ _ _); exact yu rfl rfl) | (guard_target =~ gY (.binOp .add _ _ _ _); exact ya rfl rfl (by omega)) | (guard_target =~ gY (.binOp .sub _ _ _ _); exact zw rfl rfl (by omega)) | (guard_target =~ gY (.call _); first | exact yx rfl | exact yy rfl) | (guard_target =~ gY (.build _ _); exact yg rfl rfl) | (guard_target =~ gY (.indexAddr _ _ _); exact yw rfl rfl (by omega) (by omega))) ?_
            | refine WU.skip rfl rfl rfl ?_)
        | (guard_target =~ gW (.seq _ _); refine W.seq ?_)
        | (guard_target =~ gW (.region _ _ false); refine W.reg ?_)
        | (guard_target =~ gW (.cond _ _ _); first | refine W.cond_t rfl ?_ | refine W.cond_f rfl ?_)
        | (guard_target =~ gW (.block _ _); refine W.block ?_)
        | (guard_target =~ gW .skip; refine W.skip ?_)
        | (guard_target =~ gW (.exit _); refine W.exit ?_)
        | (guard_target =~ gW .ret; refine W.ret ?_)
        | (guard_target =~ gT .normal; refine thn_normal ?_)
        | (guard_target =~ gT (.exit _); refine thn_exit ?_)
        | (guard_target =~ gT .ret; refine thn_ret ?_)
        | (guard_target =~ gI .normal; refine inb_normal ?_)
        | (guard_target =~ gI (.exit _); first | refine inb_hit ?_ | refine inb_miss rfl ?_)
        | (guard_target =~ gI .ret; refine inb_ret ?_)))
    exact fin1 (.inl rfl) rfl rfl ⟨rfl, rfl⟩

theorem c_isBytesOrRunes {x : GT} {v : Value} {w : World} (hx : Rep w v x) :
    Calls Tryz.prog 73 #[v] w (Ret fun r w' => r = .bool (bR x) ∧ w = w') := by
  obtain ⟨b, rfl, hp⟩ := hx.shape
  by_cases hB : tagOf x = 56
  · cases x <;> try (simp [tagOf] at hB; done)
    rename_i t
    have hx' := hx
    cases hx with
    | slice h1 hv =>
    obtain ⟨be, rfl, hpe⟩ := hv.shape
    by_cases hE : tagOf t = 50
    · cases t <;> try (simp [tagOf] at hE; done)
      rename_i k
      have hv' := hv
      cases hv with
      | basic _ hk h2 =>
      refine W.enter (args := [.iface 56 (.pointer (some ⟨b, 0, none⟩))]) Tryz.func73 rfl Tryz.ntmps73 rfl rfl ?_
      (repeat (first
          | (guard_target =~ gU _; first
              | (guard_target =~ gU []; first | refine WU.nilk ?_ | refine WU.nil ?_)
              | refine WU.yld rfl rfl rfl (by first | (guard_target =~ gY (.move _); exact ze rfl) | (guard_target =~ gY (.assign _); exact yf rfl) | (guard_target =~ gY (.load _ _); first | exact za rfl rfl | exact zb rfl) | (guard_target =~ gY (.fieldAddr _ _ _); exact yt rfl) | (guard_target =~ gY (.nilCheck _); first | exact zq rfl | exact zr rfl) | (guard_target =~ gY (.extract _ _); exact ys rfl rfl) | (guard_target =~ gY (.typeAssert _ _ _ true); first | exact ye rfl rfl | exact yd rfl rfl (by first | rfl | assumption) | exact yc rfl rfl) | (guard_target =~ gY (.typeAssert _ _ _ false); exact yb rfl rfl) | (guard_target =~ gY (.makeInterface _ _); exact zd rfl rfl) | (guard_target =~ gY (.pick _ _ _); first | exact zv rfl rfl | exact zu rfl rfl | exact zt rfl rfl rfl) | (guard_target =~ gY (.binOp .neq _ _ _ _); first | exact zj rfl rfl | exact zn rfl rfl | exact zm rfl rfl | exact zg rfl rfl | exact zh rfl rfl | exact zl rfl rfl | exact zf rfl rfl | exact zp rfl rfl | exact zk rfl rfl | exact zo rfl rfl | exact zi (by first | decide | assumption) rfl rfl) | (guard_target =~ gY (.binOp .eql _ _ _ _); first | exact yl rfl rfl | exact yp rfl rfl | exact yo rfl rfl | exact yi rfl rfl | exact yj rfl rfl | exact yn rfl rfl | exact yh rfl rfl | exact yr rfl rfl | exact ym rfl rfl | exact yq rfl rfl | exact yk (by first | decide | assumption) rfl rfl) | (guard_target =~ gY (.unOp .not _ _); exact zs rfl) | (guard_target =~ gY (.binOp .lss _ _ _ _); exact zc rfl rfl) | (guard_target =~ gY (.binOp .leq _ _ _ _); exact yz rfl rfl) | (guard_target =~ gY (.binOp .gtr _ _ _ _); exact yv rfl rfl) | (guard_target =~ gY (.binOp .geq _ _ _ _); exact yu rfl rfl) | (guard_target =~ gY (.binOp .add _ _ _ _); exact ya rfl rfl (by omega)) | (guard_target =~ gY (.binOp .sub _ _ _ _); exact zw rfl rfl (by omega)) | (guard_target =~ gY (.call _); first | exact yx rfl | exact yy rfl) | (guard_target =~ gY (.build _ _); exact yg rfl rfl) | (guard_target =~ gY (.indexAddr _ _ _); exact yw rfl rfl (by omega) (by omega))) ?_
              | refine WU.skip rfl rfl rfl ?_)
          | (guard_target =~ gW (.seq _ _); refine W.seq ?_)
          | (guard_target =~ gW (.region _ _ false); refine W.reg ?_)
          | (guard_target =~ gW (.cond _ _ _); first | refine W.cond_t rfl ?_ | refine W.cond_f rfl ?_)
          | (guard_target =~ gW (.block _ _); refine W.block ?_)
          | (guard_target =~ gW .skip; refine W.skip ?_)
          | (guard_target =~ gW (.exit _); refine W.exit ?_)
          | (guard_target =~ gW .ret; refine W.ret ?_)
          | (guard_target =~ gT .normal; refine thn_normal ?_)
          | (guard_target =~ gT (.exit _); refine thn_exit ?_)
          | (guard_target =~ gT .ret; refine thn_ret ?_)
          | (guard_target =~ gI .normal; refine inb_normal ?_)
          | (guard_target =~ gI (.exit _); first | refine inb_hit ?_ | refine inb_miss rfl ?_)
          | (guard_target =~ gI .ret; refine inb_ret ?_)))
      refine WU.stp rfl rfl rfl (stp_und hx' rfl) ?_
      rintro _ w2 ⟨rfl, rfl⟩
      (repeat (first
          | (guard_target =~ gU _; first
              | (guard_target =~ gU []; first | refine WU.nilk ?_ | refine WU.nil ?_)
              | refine WU.yld rfl rfl rfl (by first | (guard_target =~ gY (.move _); exact ze rfl) | (guard_target =~ gY (.assign _); exact yf rfl) | (guard_target =~ gY (.load _ _); first | exact za rfl rfl | exact zb rfl) | (guard_target =~ gY (.fieldAddr _ _ _); exact yt rfl) | (guard_target =~ gY (.nilCheck _); first | exact zq rfl | exact zr rfl) | (guard_target =~ gY (.extract _ _); exact ys rfl rfl) | (guard_target =~ gY (.typeAssert _ _ _ true); first | exact ye rfl rfl | exact yd rfl rfl (by first | rfl | assumption) | exact yc rfl rfl) | (guard_target =~ gY (.typeAssert _ _ _ false); exact yb rfl rfl) | (guard_target =~ gY (.makeInterface _ _); exact zd rfl rfl) | (guard_target =~ gY (.pick _ _ _); first | exact zv rfl rfl | exact zu rfl rfl | exact zt rfl rfl rfl) | (guard_target =~ gY (.binOp .neq _ _ _ _); first | exact zj rfl rfl | exact zn rfl rfl | exact zm rfl rfl | exact zg rfl rfl | exact zh rfl rfl | exact zl rfl rfl | exact zf rfl rfl | exact zp rfl rfl | exact zk rfl rfl | exact zo rfl rfl | exact zi (by first | decide | assumption) rfl rfl) | (guard_target =~ gY (.binOp .eql _ _ _ _); first | exact yl rfl rfl | exact yp rfl rfl | exact yo rfl rfl | exact yi rfl rfl | exact yj rfl rfl | exact yn rfl rfl | exact yh rfl rfl | exact yr rfl rfl | exact ym rfl rfl | exact yq rfl rfl | exact yk (by first | decide | assumption) rfl rfl) | (guard_target =~ gY (.unOp .not _ _); exact zs rfl) | (guard_target =~ gY (.binOp .lss _ _ _ _); exact zc rfl rfl) | (guard_target =~ gY (.binOp .leq _ _ _ _); exact yz rfl rfl) | (guard_target =~ gY (.binOp .gtr _ _ _ _); exact yv rfl rfl) | (guard_target =~ gY (.binOp .geq _ _ _ _); exact yu rfl rfl) | (guard_target =~ gY (.binOp .add _ _ _ _); exact ya rfl rfl (by omega)) | (guard_target =~ gY (.binOp .sub _ _ _ _); exact zw rfl rfl (by omega)) | (guard_target =~ gY (.call _); first | exact yx rfl | exact yy rfl) | (guard_target =~ gY (.build _ _); exact yg rfl rfl) | (guard_target =~ gY (.indexAddr _ _ _); exact yw rfl rfl (by omega) (by omega))) ?_
              | refine WU.skip rfl rfl rfl ?_)
          | (guard_target =~ gW (.seq _ _); refine W.seq ?_)
          | (guard_target =~ gW (.region _ _ false); refine W.reg ?_)
          | (guard_target =~ gW (.cond _ _ _); first | refine W.cond_t rfl ?_ | refine W.cond_f rfl ?_)
          | (guard_target =~ gW (.block _ _); refine W.block ?_)
          | (guard_target =~ gW .skip; refine W.skip ?_)
          | (guard_target =~ gW (.exit _); refine W.exit ?_)
          | (guard_target =~ gW .ret; refine W.ret ?_)
          | (guard_target =~ gT .normal; refine thn_normal ?_)
          | (guard_target =~ gT (.exit _); refine thn_exit ?_)
          | (guard_target =~ gT .ret; refine thn_ret ?_)
          | (guard_target =~ gI .normal; refine inb_normal ?_)
          | (guard_target =~ gI (.exit _); first | refine inb_hit ?_ | refine inb_miss rfl ?_)
          | (guard_target =~ gI .ret; refine inb_ret ?_)))
      refine WU.stp rfl rfl rfl (stp_und hv' rfl) ?_
      rintro _ w2 ⟨rfl, rfl⟩
      (repeat (first
          | (guard_target =~ gU _; first
              | (guard_target =~ gU []; first | refine WU.nilk ?_ | refine WU.nil ?_)
              | refine WU.yld rfl rfl rfl (by first | (guard_target =~ gY (.move _); exact ze rfl) | (guard_target =~ gY (.assign _); exact yf rfl) | (guard_target =~ gY (.load _ _); first | exact za rfl rfl | exact zb rfl) | (guard_target =~ gY (.fieldAddr _ _ _); exact yt rfl) | (guard_target =~ gY (.nilCheck _); first | exact zq rfl | exact zr rfl) | (guard_target =~ gY (.extract _ _); exact ys rfl rfl) | (guard_target =~ gY (.typeAssert _ _ _ true); first | exact ye rfl rfl | exact yd rfl rfl (by first | rfl | assumption) | exact yc rfl rfl) | (guard_target =~ gY (.typeAssert _ _ _ false); exact yb rfl rfl) | (guard_target =~ gY (.makeInterface _ _); exact zd rfl rfl) | (guard_target =~ gY (.pick _ _ _); first | exact zv rfl rfl | exact zu rfl rfl | exact zt rfl rfl rfl) | (guard_target =~ gY (.binOp .neq _ _ _ _); first | exact zj rfl rfl | exact zn rfl rfl | exact zm rfl rfl | exact zg rfl rfl | exact zh rfl rfl | exact zl rfl rfl | exact zf rfl rfl | exact zp rfl rfl | exact zk rfl rfl | exact zo rfl rfl | exact zi (by first | decide | assumption) rfl rfl) | (guard_target =~ gY (.binOp .eql _ _ _ _); first | exact yl rfl rfl | exact yp rfl rfl | exact yo rfl rfl | exact yi rfl rfl | exact yj rfl rfl | exact yn rfl rfl | exact yh rfl rfl | exact yr rfl rfl | exact ym rfl rfl | exact yq rfl rfl | exact yk (by first | decide | assumption) rfl rfl) | (guard_target =~ gY (.unOp .not _ _); exact zs rfl) | (guard_target =~ gY (.binOp .lss _ _ _ _); exact zc rfl rfl) | (guard_target =~ gY (.binOp .leq _ _ _ _); exact yz rfl rfl) | (guard_target =~ gY (.binOp .gtr _ _ _ _); exact yv rfl rfl) | (guard_target =~ gY (.binOp .geq _ _ _ _); exact yu rfl rfl) | (guard_target =~ gY (.binOp .add _ _ _ _); exact ya rfl rfl (by omega)) | (guard_target =~ gY (.binOp .sub _ _ _ _); exact zw rfl rfl (by omega)) | (guard_target =~ gY (.call _); first | exact yx rfl | exact yy rfl) | (guard_target =~ gY (.build _ _); exact yg rfl rfl) | (guard_target =~ gY (.indexAddr _ _ _); exact yw rfl rfl (by omega) (by omega))) ?_
              | refine WU.skip rfl rfl rfl ?_)
          | (guard_target =~ gW (.seq _ _); refine W.seq ?_)
          | (guard_target =~ gW (.region _ _ false); refine W.reg ?_)
          | (guard_target =~ gW (.cond _ _ _); first | refine W.cond_t rfl ?_ | refine W.cond_f rfl ?_)
          | (guard_target =~ gW (.block _ _); refine W.block ?_)
          | (guard_target =~ gW .skip; refine W.skip ?_)
          | (guard_target =~ gW (.exit _); refine W.exit ?_)
          | (guard_target =~ gW .ret; refine W.ret ?_)
          | (guard_target =~ gT .normal; refine thn_normal ?_)
          | (guard_target =~ gT (.exit _); refine thn_exit ?_)
          | (guard_target =~ gT .ret; refine thn_ret ?_)
          | (guard_target =~ gI .normal; refine inb_normal ?_)
          | (guard_target =~ gI (.exit _); first | refine inb_hit ?_ | refine inb_miss rfl ?_)
          | (guard_target =~ gI .ret; refine inb_ret ?_)))
      cases h8 : k == 8
      · (repeat (first
          | (guard_target =~ gU _; first
              | (guard_target =~ gU []; first | refine WU.nilk ?_ | refine WU.nil ?_)
              | refine WU.yld rfl rfl rfl (by first | (guard_target =~ gY (.move _); exact ze rfl) | (guard_target =~ gY (.assign _); exact yf rfl) | (guard_target =~ gY (.load _ _); first | exact za rfl rfl | exact zb rfl) | (guard_target =~ gY (.fieldAddr _ _ _); exact yt rfl) | (guard_target =~ gY (.nilCheck _); first | exact zq rfl | exact zr rfl) | (guard_target =~ gY (.extract _ _); exact ys rfl rfl) | (guard_target =~ gY (.typeAssert _ _ _ true); first | exact ye rfl rfl | exact yd rfl rfl (by first | rfl | assumption) | exact yc rfl rfl) | (guard_target =~ gY (.typeAssert _ _ _ false); exact yb rfl rfl) | (guard_target =~ gY (.makeInterface _ _); exact zd rfl rfl) | (guard_target =~ gY (.pick _ _ _); first | exact zv rfl rfl | exact zu rfl rfl | exact zt rfl rfl rfl) | (guard_target =~ gY (.binOp .neq _ _ _ _); first | exact zj rfl rfl | exact zn rfl rfl | exact zm rfl rfl | exact zg rfl rfl | exact zh rfl rfl | exact zl rfl rfl | exact zf rfl rfl | exact zp rfl rfl | exact zk rfl rfl | exact zo rfl rfl | exact zi (by first | decide | assumption) rfl rfl) | (guard_target =~ gY (.binOp .eql _ _ _ _); first | exact yl rfl rfl | exact yp rfl rfl | exact yo rfl rfl | exact yi rfl rfl | exact yj rfl rfl | exact yn rfl rfl | exact yh rfl rfl | exact yr rfl rfl | exact ym rfl rfl | exact yq rfl rfl | exact yk (by first | decide | assumption) rfl rfl) | (guard_target =~ gY (.unOp .not _ _); exact zs rfl) | (guard_target =~ gY (.binOp .lss _ _ _ _); exact zc rfl rfl) | (guard_target =~ gY (.binOp .leq _ _ _ _); exact yz rfl rfl) | (guard_target =~ gY (.binOp .gtr _ _ _ _); exact yv rfl rfl) | (guard_target =~ gY (.binOp .geq _ _ _ _); exact yu rfl rfl) | (guard_target =~ gY (.binOp .add _ _ _ _); exact ya rfl rfl (by omega)) | (guard_target =~ gY (.binOp .sub _ _ _ _); exact zw rfl rfl (by omega)) | (guard_target =~ gY (.call _); first | exact yx rfl | exact yy rfl) | (guard_target =~ gY (.build _ _); exact yg rfl rfl) | (guard_target =~ gY (.indexAddr _ _ _); exact yw rfl rfl (by omega) (by omega))) ?_
              | refine WU.skip rfl rfl rfl ?_)
          | (guard_target =~ gW (.seq _ _); refine W.seq ?_)
          | (guard_target =~ gW (.region _ _ false); refine W.reg ?_)
          | (guard_target =~ gW (.cond _ _ _); first | refine W.cond_t rfl ?_ | refine W.cond_f rfl ?_)
          | (guard_target =~ gW (.block _ _); refine W.block ?_)
          | (guard_target =~ gW .skip; refine W.skip ?_)
          | (guard_target =~ gW (.exit _); refine W.exit ?_)
          | (guard_target =~ gW .ret; refine W.ret ?_)
          | (guard_target =~ gT .normal; refine thn_normal ?_)
          | (guard_target =~ gT (.exit _); refine thn_exit ?_)
          | (guard_target =~ gT .ret; refine thn_ret ?_)
          | (guard_target =~ gI .normal; refine inb_normal ?_)
          | (guard_target =~ gI (.exit _); first | refine inb_hit ?_ | refine inb_miss rfl ?_)
          | (guard_target =~ gI .ret; refine inb_ret ?_)))
        exact fin1 (.inl rfl) rfl rfl ⟨by simp [bR, h8], rfl⟩
      · (repeat (first
          | (guard_target =~ gU _; first
              | (guard_target =~ gU []; first | refine WU.nilk ?_ | refine WU.nil ?_)
              | refine WU.yld rfl rfl rfl (by first | (guard_target =~ gY (.move _); exact ze rfl) | (guard_target =~ gY (.assign _); exact yf rfl) | (guard_target =~ gY (.load _ _); first | exact za rfl rfl | exact zb rfl) | (guard_target =~ gY (.fieldAddr _ _ _); exact yt rfl) | (guard_target =~ gY (.nilCheck _); first | exact zq rfl | exact zr rfl) | (guard_target =~ gY (.extract _ _); exact ys rfl rfl) | (guard_target =~ gY (.typeAssert _ _ _ true); first | exact ye rfl rfl | exact yd rfl rfl (by first | rfl | assumption) | exact yc rfl rfl) | (guard_target =~ gY (.typeAssert _ _ _ false); exact yb rfl rfl) | (guard_target =~ gY (.makeInterface _ _); exact zd rfl rfl) | (guard_target =~ gY (.pick _ _ _); first | exact zv rfl rfl | exact zu rfl rfl | exact zt rfl rfl rfl) | (guard_target =~ gY (.binOp .neq _ _ _ _); first | exact zj rfl rfl | exact zn rfl rfl | exact zm rfl rfl | exact zg rfl rfl | exact zh rfl rfl | exact zl rfl rfl | exact zf rfl rfl | exact zp rfl rfl | exact zk rfl rfl | exact zo rfl rfl | exact zi (by first | decide | assumption) rfl rfl) | (guard_target =~ gY (.binOp .eql _ _ _ _); first | exact yl rfl rfl | exact yp rfl rfl | exact yo rfl rfl | exact yi rfl rfl | exact yj rfl rfl | exact yn rfl rfl | exact yh rfl rfl | exact yr rfl rfl | exact ym rfl rfl | exact yq rfl rfl | exact yk (by first | decide | assumption) rfl rfl) | (guard_target =~ gY (.unOp .not _ _); exact zs rfl) | (guard_target =~ gY (.binOp .lss _ _ _ _); exact zc rfl rfl) | (guard_target =~ gY (.binOp .leq _ _ _ _); exact yz rfl rfl) | (guard_target =~ gY (.binOp .gtr _ _ _ _); exact yv rfl rfl) | (guard_target =~ gY (.binOp .geq _ _ _ _); exact yu rfl rfl) | (guard_target =~ gY (.binOp .add _ _ _ _); exact ya rfl rfl (by omega)) | (guard_target =~ gY (.binOp .sub _ _ _ _); exact zw rfl rfl (by omega)) | (guard_target =~ gY (.call _); first | exact yx rfl | exact yy rfl) | (guard_target =~ gY (.build _ _); exact yg rfl rfl) | (guard_target =~ gY (.indexAddr _ _ _); exact yw rfl rfl (by omega) (by omega))) ?_
              | refine WU.skip rfl rfl rfl ?_)
          | (guard_target =~ gW (.seq _ _); refine W.seq ?_)
          | (guard_target =~ gW (.region _ _ false); refine W.reg ?_)
          | (guard_target =~ gW (.cond _ _ _); first | refine W.cond_t rfl ?_ | refine W.cond_f rfl ?_)
          | (guard_target =~ gW (.block _ _); refine W.block ?_)
          | (guard_target =~ gW .skip; refine W.skip ?_)
          | (guard_target =~ gW (.exit _); refine W.exit ?_)
          | (guard_target =~ gW .ret; refine W.ret ?_)
          | (guard_target =~ gT .normal; refine thn_normal ?_)
          | (guard_target =~ gT (.exit _); refine thn_exit ?_)
          | (guard_target =~ gT .ret; refine thn_ret ?_)
          | (guard_target =~ gI .normal; refine inb_normal ?_)
          | (guard_target =~ gI (.exit _); first | refine inb_hit ?_ | refine inb_miss rfl ?_)
          | (guard_target =~ gI .ret; refine inb_ret ?_)))
        exact fin1 (.inl rfl) rfl rfl ⟨by simp [bR, h8], rfl⟩
    · have hT := beq_no hE
      have hb : bR (.slice t) = false := by cases t <;> first | rfl | exact absurd rfl hE
      rw [hb]
      refine W.enter (args := [.iface 56 (.pointer (some ⟨b, 0, none⟩))]) Tryz.func73 rfl Tryz.ntmps73 rfl rfl ?_
      (repeat (first
          | (guard_target =~ gU _; first
              | (guard_target =~ gU []; first | refine WU.nilk ?_ | refine WU.nil ?_)
              | refine WU.yld rfl rfl rfl (by first | (guard_target =~ gY (.move _); exact ze rfl) | (guard_target =~ gY (.assign _); exact yf rfl) | (guard_target =~ gY (.load _ _); first | exact za rfl rfl | exact zb rfl) | (guard_target =~ gY (.fieldAddr _ _ _); exact yt rfl) | (guard_target =~ gY (.nilCheck _); first | exact zq rfl | exact zr rfl) | (guard_target =~ gY (.extract _ _); exact ys rfl rfl) | (guard_target =~ gY (.typeAssert _ _ _ true); first | exact ye rfl rfl | exact yd rfl rfl (by first | rfl | assumption) | exact yc rfl rfl) | (guard_target =~ gY (.typeAssert _ _ _ false); exact yb rfl rfl) | (guard_target =~ gY (.makeInterface _ _); exact zd rfl rfl) | (guard_target =~ gY (.pick _ _ _); first | exact zv rfl rfl | exact zu rfl rfl | exact zt rfl rfl rfl) | (guard_target =~ gY (.binOp .neq _ _ _ _); first | exact zj rfl rfl | exact zn rfl rfl | exact zm rfl rfl | exact zg rfl rfl | exact zh rfl rfl | exact zl rfl rfl | exact zf rfl rfl | exact zp rfl rfl | exact zk rfl rfl | exact zo rfl rfl | exact zi (by first | decide | assumption) rfl rfl) | (guard_target =~ gY (.binOp .eql _ _ _ _); first | exact yl rfl rfl | exact yp rfl rfl | exact yo rfl rfl | exact yi rfl rfl | exact yj rfl rfl | exact yn rfl rfl | exact yh rfl rfl | exact yr rfl rfl | exact ym rfl rfl | exact yq rfl rfl | exact yk (by first | decide | assumption) rfl rfl) | (guard_target =~ gY (.unOp .not _ _); exact zs rfl) | (guard_target =~ gY (.binOp .lss _ _ _ _); exact zc rfl rfl) | (guard_target =~ gY (.binOp .leq _ _ _ _); exact yz rfl rfl) | (guard_target =~ gY (.binOp .gtr _ _ _ _); exact yv rfl rfl) | (guard_target =~ gY (.binOp .geq _ _ _ _); exact yu rfl rfl) | (guard_target =~ gY (.binOp .add _ _ _ _); exact ya rfl rfl (by omega)) | (guard_target =~ gY (.binOp .sub _ _ _ _); exact zw rfl rfl (by omega)) | (guard_target =~ gY (.call _); first | exact yx rfl | exact yy rfl) | (guard_target =~ gY (.build _ _); exact yg rfl rfl) | (guard_target =~ gY (.indexAddr _ _ _); exact yw rfl rfl (by omega) (by omega))) ?_
              | refine WU.skip rfl rfl rfl ?_)
          | (guard_target =~ gW (.seq _ _); refine W.seq ?_)
          | (guard_target =~ gW (.region _ _ false); refine W.reg ?_)
          | (guard_target =~ gW (.cond _ _ _); first | refine W.cond_t rfl ?_ | refine W.cond_f rfl ?_)
          | (guard_target =~ gW (.block _ _); refine W.block ?_)
          | (guard_target =~ gW .skip; refine W.skip ?_)
          | (guard_target =~ gW (.exit _); refine W.exit ?_)
          | (guard_target =~ gW .ret; refine W.ret ?_)
          | (guard_target =~ gT .normal; refine thn_normal ?_)
          | (guard_target =~ gT (.exit _); refine thn_exit ?_)
          | (guard_target =~ gT .ret; refine thn_ret ?_)
          | (guard_target =~ gI .normal; refine inb_normal ?_)
          | (guard_target =~ gI (.exit _); first | refine inb_hit ?_ | refine inb_miss rfl ?_)
          | (guard_target =~ gI .ret; refine inb_ret ?_)))
      refine WU.stp rfl rfl rfl (stp_und hx' rfl) ?_
      rintro _ w2 ⟨rfl, rfl⟩
      (repeat (first
          | (guard_target =~ gU _; first
              | (guard_target =~ gU []; first | refine WU.nilk ?_ | refine WU.nil ?_)
              | refine WU.yld rfl rfl rfl (by first | (guard_target =~ gY (.move _); exact ze rfl) | (guard_target =~ gY (.assign _); exact yf rfl) | (guard_target =~ gY (.load _ _); first | exact za rfl rfl | exact zb rfl) | (guard_target =~ gY (.fieldAddr _ _ _); exact yt rfl) | (guard_target =~ gY (.nilCheck _); first | exact zq rfl | exact zr rfl) | (guard_target =~ gY (.extract _ _); exact ys rfl rfl) | (guard_target =~ gY (.typeAssert _ _ _ true); first | exact ye rfl rfl | exact yd rfl rfl (by first | rfl | assumption) | exact yc rfl rfl) | (guard_target =~ gY (.typeAssert _ _ _ false); exact yb rfl rfl) | (guard_target =~ gY (.makeInterface _ _); exact zd rfl rfl) | (guard_target =~ gY (.pick _ _ _); first | exact zv rfl rfl | exact zu rfl rfl | exact zt rfl rfl rfl) | (guard_target =~ gY (.binOp .neq _ _ _ _); first | exact zj rfl rfl | exact zn rfl rfl | exact zm rfl rfl | exact zg rfl rfl | exact zh rfl rfl | exact zl rfl rfl | exact zf rfl rfl | exact zp rfl rfl | exact zk rfl rfl | exact zo rfl rfl | exact zi (by first | decide | assumption) rfl rfl) | (guard_target =~ gY (.binOp .eql _ _ _ _); first | exact yl rfl rfl | exact yp rfl rfl | exact yo rfl rfl | exact yi rfl rfl | exact yj rfl rfl | exact yn rfl rfl | exact yh rfl rfl | exact yr rfl rfl | exact ym rfl rfl | exact yq rfl rfl | exact yk (by first | decide | assumption) rfl rfl) | (guard_target =~ gY (.unOp .not _ _); exact zs rfl) | (guard_target =~ gY (.binOp .lss _ _ _ _); exact zc rfl rfl) | (guard_target =~ gY (.binOp .leq _ _ _ _); exact yz rfl rfl) | (guard_target =~ gY (.binOp .gtr _ _ _ _); exact yv rfl rfl) | (guard_target =~ gY (.binOp .geq _ _ _ _); exact yu rfl rfl) | (guard_target =~ gY (.binOp .add _ _ _ _); exact ya rfl rfl (by omega)) | (guard_target =~ gY (.binOp .sub _ _ _ _); exact zw rfl rfl (by omega)) | (guard_target =~ gY (.call _); first | exact yx rfl | exact yy rfl) | (guard_target =~ gY (.build _ _); exact yg rfl rfl) | (guard_target =~ gY (.indexAddr _ _ _); exact yw rfl rfl (by omega) (by omega))) ?_
              | refine WU.skip rfl rfl rfl ?_)
          | (guard_target =~ gW (.seq _ _); refine W.seq ?_)
          | (guard_target =~ gW (.region _ _ false); refine W.reg ?_)
          | (guard_target =~ gW (.cond _ _ _); first | refine W.cond_t rfl ?_ | refine W.cond_f rfl ?_)
          | (guard_target =~ gW (.block _ _); refine W.block ?_)
          | (guard_target =~ gW .skip; refine W.skip ?_)
          | (guard_target =~ gW (.exit _); refine W.exit ?_)
          | (guard_target =~ gW .ret; refine W.ret ?_)
          | (guard_target =~ gT .normal; refine thn_normal ?_)
          | (guard_target =~ gT (.exit _); refine thn_exit ?_)
          | (guard_target =~ gT .ret; refine thn_ret ?_)
          | (guard_target =~ gI .normal; refine inb_normal ?_)
          | (guard_target =~ gI (.exit _); first | refine inb_hit ?_ | refine inb_miss rfl ?_)
          | (guard_target =~ gI .ret; refine inb_ret ?_)))
      refine WU.stp rfl rfl rfl (stp_und hv rfl) ?_
      rintro _ w2 ⟨rfl, rfl⟩
      (repeat (first
          | (guard_target =~ gU _; first
              | (guard_target =~ gU []; first | refine WU.nilk ?_ | refine WU.nil ?_)
              | refine WU.yld rfl rfl rfl (by first | (guard_target =~ gY (.move _); exact ze rfl) | (guard_target =~ gY (.assign _); exact yf rfl) | (guard_target =~ gY (.load _ _); first | exact za rfl rfl | exact zb rfl) | (guard_target =~ gY (.fieldAddr _ _ _); exact yt rfl) | (guard_target =~ gY (.nilCheck _); first | exact zq rfl | exact zr rfl) | (guard_target =~ gY (.extract _ _); exact ys rfl rfl) | (guard_target =~ gY (.typeAssert _ _ _ true); first | exact ye rfl rfl | exact yd rfl rfl (by first | rfl | assumption) | exact yc rfl rfl) | (guard_target =~ gY (.typeAssert _ _ _ false); exact yb rfl rfl) | (guard_target =~ gY (.makeInterface _ _); exact zd rfl rfl) | (guard_target =~ gY (.pick _ _ _); first | exact zv rfl rfl | exact zu rfl rfl | exact zt rfl rfl rfl) | (guard_target =~ gY (.binOp .neq _ _ _ _); first | exact zj rfl rfl | exact zn rfl rfl | exact zm rfl rfl | exact zg rfl rfl | exact zh rfl rfl | exact zl rfl rfl | exact zf rfl rfl | exact zp rfl rfl | exact zk rfl rfl | exact zo rfl rfl | exact zi (by first | decide | assumption) rfl rfl) | (guard_target =~ gY (.binOp .eql _ _ _ _); first | exact yl rfl rfl | exact yp rfl rfl | exact yo rfl rfl | exact yi rfl rfl | exact yj rfl rfl | exact yn rfl rfl | exact yh rfl rfl | exact yr rfl rfl | exact ym rfl rfl | exact yq rfl rfl | exact yk (by first | decide | assumption) rfl rfl) | (guard_target =~ gY (.unOp .not _ _); exact zs rfl) | (guard_target =~ gY (.binOp .lss _ _ _ _); exact zc rfl rfl) | (guard_target =~ gY (.binOp .leq _ _ _ _); exact yz rfl rfl) | (guard_target =~ gY (.binOp .gtr _ _ _ _); exact yv rfl rfl) | (guard_target =~ gY (.binOp .geq _ _ _ _); exact yu rfl rfl) | (guard_target =~ gY (.binOp .add _ _ _ _); exact ya rfl rfl (by omega)) | (guard_target =~ gY (.binOp .sub _ _ _ _); exact zw rfl rfl (by omega)) | (guard_target =~ gY (.call _); first | exact yx rfl | exact yy rfl) | (guard_target =~ gY (.build _ _); exact yg rfl rfl) | (guard_target =~ gY (.indexAddr _ _ _); exact yw rfl rfl (by omega) (by omega))) ?_
              | refine WU.skip rfl rfl rfl ?_)
          | (guard_target =~ gW (.seq _ _); refine W.seq ?_)
          | (guard_target =~ gW (.region _ _ false); refine W.reg ?_)
          | (guard_target =~ gW (.cond _ _ _); first | refine W.cond_t rfl ?_ | refine W.cond_f rfl ?_)
          | (guard_target =~ gW (.block _ _); refine W.block ?_)
          | (guard_target =~ gW .skip; refine W.skip ?_)
          | (guard_target =~ gW (.exit _); refine W.exit ?_)
          | (guard_target =~ gW .ret; refine W.ret ?_)
          | (guard_target =~ gT .normal; refine thn_normal ?_)
          | (guard_target =~ gT (.exit _); refine thn_exit ?_)
          | (guard_target =~ gT .ret; refine thn_ret ?_)
          | (guard_target =~ gI .normal; refine inb_normal ?_)
          | (guard_target =~ gI (.exit _); first | refine inb_hit ?_ | refine inb_miss rfl ?_)
          | (guard_target =~ gI .ret; refine inb_ret ?_)))
      exact fin1 (.inl rfl) rfl rfl ⟨rfl, rfl⟩
  · have hT := beq_no hB
    have hb : bR x = false := by cases x <;> first | rfl | exact absurd rfl hB
    rw [hb]
    refine W.enter (args := [.iface (tagOf x) (.pointer (some ⟨b, 0, none⟩))]) Tryz.func73 rfl Tryz.ntmps73 rfl rfl ?_
    (repeat (first
        | (guard_target =~ gU _; first
            | (guard_target =~ gU []; first | refine WU.nilk ?_ | refine WU.nil ?_)
            | refine WU.yld rfl rfl rfl (by first | (guard_target =~ gY (.move _); exact ze rfl) | (guard_target =~ gY (.assign _); exact yf rfl) | (guard_target =~ gY (.load _ _); first | exact za rfl rfl | exact zb rfl) | (guard_target =~ gY (.fieldAddr _ _ _); exact yt rfl) | (guard_target =~ gY (.nilCheck _); first | exact zq rfl | exact zr rfl) | (guard_target =~ gY (.extract _ _); exact ys rfl rfl) | (guard_target =~ gY (.typeAssert _ _ _ true); first | exact ye rfl rfl | exact yd rfl rfl (by first | rfl | assumption) | exact yc rfl rfl) | (guard_target =~ gY (.typeAssert _ _ _ false); exact yb rfl rfl) | (guard_target =~ gY (.makeInterface _ _); exact zd rfl rfl) | (guard_target =~ gY (.pick _ _ _); first | exact zv rfl rfl | exact zu rfl rfl | exact zt rfl rfl rfl) | (guard_target =~ gY (.binOp .neq _ _ _ _); first | exact zj rfl rfl | exact zn rfl rfl | exact zm rfl rfl | exact zg rfl rfl | exact zh rfl rfl | exact zl rfl rfl | exact zf rfl rfl | exact zp rfl rfl | exact zk rfl rfl | exact zo rfl rfl | exact zi (by first | decide | assumption) rfl rfl) | (guard_target =~ gY (.binOp .eql _ _ _ _); first | exact yl rfl rfl | exact yp rfl rfl | exact yo rfl rfl | exact yi rfl rfl | exact yj rfl rfl | exact yn rfl rfl | exact yh rfl rfl | exact yr rfl rfl | exact ym rfl rfl | exact yq rfl rfl | exact yk (by first | decide | assumption) rfl rfl) | (guard_target =~ gY (.unOp .not _ _); exact zs rfl) | (guard_target =~ gY (.binOp .lss _ _ _ _); exact zc rfl rfl) | (guard_target =~ gY (.binOp .leq _ _ _ _); exact yz rfl rfl) | (guard_target =~ gY (.binOp .gtr _ _ _ _); exact yv rfl rfl) | (guard_target =~ gY (.binOp .geq _ _ _ _); exact yu rfl rfl) | (guard_target =~ gY (.binOp .add _ _ _ _); exact ya rfl rfl (by omega)) | (guard_target =~ gY (.binOp .sub _ _ _ _); exact zw rfl rfl (by omega)) | (guard_target =~ gY (.call _); first | exact yx rfl | exact yy rfl) | (guard_target =~ gY (.build _ _); exact yg rfl rfl) | (guard_target =~ gY (.indexAddr _ _ _); exact yw rfl rfl (by omega) (by omega))) ?_
            | refine WU.skip rfl rfl rfl ?_)
        | (guard_target =~ gW (.seq _ _); refine W.seq ?_)
        | (guard_target =~ gW (.region _ _ false); refine W.reg ?_)
        | (guard_target =~ gW (.cond _ _ _); first | refine W.cond_t rfl ?_ | refine W.cond_f rfl ?_)
        | (guard_target =~ gW (.block _ _); refine W.block ?_)
        | (guard_target =~ gW .skip; refine W.skip ?_)
        | (guard_target =~ gW (.exit _); refine W.exit ?_)
        | (guard_target =~ gW .ret; refine W.ret ?_)
        | (guard_target =~ gT .normal; refine thn_normal ?_)
        | (guard_target =~ gT (.exit _); refine thn_exit ?_)
        | (guard_target =~ gT .ret; refine thn_ret ?_)
        | (guard_target =~ gI .normal; refine inb_normal ?_)
        | (guard_target =~ gI (.exit _); first | refine inb_hit ?_ | refine inb_miss rfl ?_)
        | (guard_target =~ gI .ret; refine inb_ret ?_)))
    refine WU.stp rfl rfl rfl (stp_und hx rfl) ?_
    rintro _ w2 ⟨rfl, rfl⟩
    (repeat (first
        | (guard_target =~ gU _; first
            | (guard_target =~ gU []; first | refine WU.nilk ?_ | refine WU.nil ?_)
            | refine WU.yld rfl rfl rfl (by first | (guard_target =~ gY (.move _); exact ze rfl) | (guard_target =~ gY (.assign _); exact yf rfl) | (guard_target =~ gY (.load _ _); first | exact za rfl rfl | exact zb rfl) | (guard_target =~ gY (.fieldAddr _ _ _); exact yt rfl) | (guard_target =~ gY (.nilCheck _); first | exact zq rfl | exact zr rfl) | (guard_target =~ gY (.extract _ _); exact ys rfl rfl) | (guard_target =~ gY (.typeAssert _ _ _ true); first | exact ye rfl rfl | exact yd rfl rfl (by first | rfl | assumption) | exact yc rfl rfl) | (guard_target =~ gY (.typeAssert _ _ _ false); exact yb rfl rfl) | (guard_target =~ gY (.makeInterface _ _); exact zd rfl rfl) | (guard_target =~ gY (.pick _ _ _); first | exact zv rfl rfl | exact zu rfl rfl | exact zt rfl rfl rfl) | (guard_target =~ gY (.binOp .neq _ _ _ _); first | exact zj rfl rfl | exact zn rfl rfl | exact zm rfl rfl | exact zg rfl rfl | exact zh rfl rfl | exact zl rfl rfl | exact zf rfl rfl | exact zp rfl rfl | exact zk rfl rfl | exact zo rfl rfl | exact zi (by first | decide | assumption) rfl rfl) | (guard_target =~ gY (.binOp .eql _ _ _ _); first | exact yl rfl rfl | exact yp rfl rfl | exact yo rfl rfl | exact yi rfl rfl | exact yj rfl rfl | exact yn rfl rfl | exact yh rfl rfl | exact yr rfl rfl | exact ym rfl rfl | exact yq rfl rfl | exact yk (by first | decide | assumption) rfl rfl) | (guard_target =~ gY (.unOp .not _ _); exact zs rfl) | (guard_target =~ gY (.binOp .lss _ _ _ _); exact zc rfl rfl) | (guard_target =~ gY (.binOp .leq _ _ _ _); exact yz rfl rfl) | (guard_target =~ gY (.binOp .gtr _ _ _ _); exact yv rfl rfl) | (guard_target =~ gY (.binOp .geq _ _ _ _); exact yu rfl rfl) | (guard_target =~ gY (.binOp .add _ _ _ _); exact ya rfl rfl (by omega)) | (guard_target =~ gY (.binOp .sub _ _ _ _); exact zw rfl rfl (by omega)) | (guard_target =~ gY (.call _); first | exact yx rfl | exact yy rfl) | (guard_target =~ gY (.build _ _); exact yg rfl rfl) | (guard_target =~ gY (.indexAddr _ _ _); exact yw rfl rfl (by omega) (by omega))) ?_
            | refine WU.skip rfl rfl rfl ?_)
        | (guard_target =~ gW (.seq _ _); refine W.seq ?_)
        | (guard_target =~ gW (.region _ _ false); refine W.reg ?_)
        | (guard_target =~ gW (.cond _ _ _); first | refine W.cond_t rfl ?_ | refine W.cond_f rfl ?_)
        | (guard_target =~ gW (.block _ _); refine W.block ?_)
        | (guard_target =~ gW .skip; refine W.skip ?_)
        | (guard_target =~ gW (.exit _); refine W.exit ?_)
        | (guard_target =~ gW .ret; refine W.ret ?_)
        | (guard_target =~ gT .normal; refine thn_normal ?_)
        | (guard_target =~ gT (.exit _); refine thn_exit ?_)
        | (guard_target =~ gT .ret; refine thn_ret ?_)
        | (guard_target =~ gI .normal; refine inb_normal ?_)
        | (guard_target =~ gI (.exit _); first | refine inb_hit ?_ | refine inb_miss rfl ?_)
        | (guard_target =~ gI .ret; refine inb_ret ?_)))
    exact fin1 (.inl rfl) rfl rfl ⟨rfl, rfl⟩

theorem c_ElemSlice {b : Nat} {v : Value} {w : World} (h : Has w b (.cells #[v] 87)) :
    Calls Tryz.prog 78 #[.pointer (some ⟨b, 0, none⟩)] w (Ret fun r w' => r = v ∧ w = w') := by
  refine W.enter (args := [.pointer (some ⟨b, 0, none⟩)]) Tryz.func78 rfl Tryz.ntmps78 rfl rfl ?_
  (repeat (first
      | (guard_target =~ gU _; first
          | (guard_target =~ gU []; first | refine WU.nilk ?_ | refine WU.nil ?_)
          | refine WU.yld rfl rfl rfl (by first | (guard_target =~ gY (.move _); exact ze rfl) | (guard_target =~ gY (.assign _); exact yf rfl) | (guard_target =~ gY (.load _ _); first | exact za rfl rfl | exact zb rfl) | (guard_target =~ gY (.fieldAddr _ _ _); exact yt rfl) | (guard_target =~ gY (.nilCheck _); first | exact zq rfl | exact zr rfl) | (guard_target =~ gY (.extract _ _); exact ys rfl rfl) | (guard_target =~ gY (.typeAssert _ _ _ true); first | exact ye rfl rfl | exact yd rfl rfl (by first | rfl | assumption) | exact yc rfl rfl) | (guard_target =~ gY (.typeAssert _ _ _ false); exact yb rfl rfl) | (guard_target =~ gY (.makeInterface _ _); exact zd rfl rfl) | (guard_target =~ gY (.pick _ _ _); first | exact zv rfl rfl | exact zu rfl rfl | exact zt rfl rfl rfl) | (guard_target =~ gY (.binOp .neq _ _ _ _); first | exact zj rfl rfl | exact zn rfl rfl | exact zm rfl rfl | exact zg rfl rfl | exact zh rfl rfl | exact zl rfl rfl | exact zf rfl rfl | exact zp rfl rfl | exact zk rfl rfl | exact zo rfl rfl | exact zi (by first | decide | assumption) rfl rfl) | (guard_target =~ gY (.binOp .eql _ _ _ _); first | exact yl rfl rfl | exact yp rfl rfl | exact yo rfl rfl | exact yi rfl rfl | exact yj rfl rfl | exact yn rfl rfl | exact yh rfl rfl | exact yr rfl rfl | exact ym rfl rfl | exact yq rfl rfl | exact yk (by first | decide | assumption) rfl rfl) | (guard_target =~ gY (.unOp .not _ _); exact zs rfl) | (guard_target =~ gY (.binOp .lss _ _ _ _); exact zc rfl rfl) | (guard_target =~ gY (.binOp .leq _ _ _ _); exact yz rfl rfl) | (guard_target =~ gY (.binOp .gtr _ _ _ _); exact yv rfl rfl) | (guard_target =~ gY (.binOp .geq _ _ _ _); exact yu rfl rfl) | (guard_target =~ gY (.binOp .add _ _ _ _); exact ya rfl rfl (by omega)) | (guard_target =~ gY (.binOp .sub _ _ _ _); exact zw rfl rfl (by omega)) | (guard_target =~ gY (.call _); first | exact yx rfl | exact yy rfl) | (guard_target =~ gY (.build _ _); exact yg rfl rfl) | (guard_target =~ gY (.indexAddr _ _ _); exact yw rfl rfl (by omega) (by omega))) ?_
          | refine WU.skip rfl rfl rfl ?_)
      | (guard_target =~ gW (.seq _ _); refine W.seq ?_)
      | (guard_target =~ gW (.region _ _ false); refine W.reg ?_)
      | (guard_target =~ gW (.cond _ _ _); first | refine W.cond_t rfl ?_ | refine W.cond_f rfl ?_)
      | (guard_target =~ gW (.block _ _); refine W.block ?_)
      | (guard_target =~ gW .skip; refine W.skip ?_)
      | (guard_target =~ gW (.exit _); refine W.exit ?_)
      | (guard_target =~ gW .ret; refine W.ret ?_)
      | (guard_target =~ gT .normal; refine thn_normal ?_)
      | (guard_target =~ gT (.exit _); refine thn_exit ?_)
      | (guard_target =~ gT .ret; refine thn_ret ?_)
      | (guard_target =~ gI .normal; refine inb_normal ?_)
      | (guard_target =~ gI (.exit _); first | refine inb_hit ?_ | refine inb_miss rfl ?_)
      | (guard_target =~ gI .ret; refine inb_ret ?_)))
  exact fin1 (.inl rfl) rfl rfl ⟨rfl, rfl⟩

theorem c_ElemPointer {b : Nat} {v : Value} {w : World} (h : Has w b (.cells #[v] 107)) :
    Calls Tryz.prog 80 #[.pointer (some ⟨b, 0, none⟩)] w (Ret fun r w' => r = v ∧ w = w') := by
  refine W.enter (args := [.pointer (some ⟨b, 0, none⟩)]) Tryz.func80 rfl Tryz.ntmps80 rfl rfl ?_
  (repeat (first
      | (guard_target =~ gU _; first
          | (guard_target =~ gU []; first | refine WU.nilk ?_ | refine WU.nil ?_)
          | refine WU.yld rfl rfl rfl (by first | (guard_target =~ gY (.move _); exact ze rfl) | (guard_target =~ gY (.assign _); exact yf rfl) | (guard_target =~ gY (.load _ _); first | exact za rfl rfl | exact zb rfl) | (guard_target =~ gY (.fieldAddr _ _ _); exact yt rfl) | (guard_target =~ gY (.nilCheck _); first | exact zq rfl | exact zr rfl) | (guard_target =~ gY (.extract _ _); exact ys rfl rfl) | (guard_target =~ gY (.typeAssert _ _ _ true); first | exact ye rfl rfl | exact yd rfl rfl (by first | rfl | assumption) | exact yc rfl rfl) | (guard_target =~ gY (.typeAssert _ _ _ false); exact yb rfl rfl) | (guard_target =~ gY (.makeInterface _ _); exact zd rfl rfl) | (guard_target =~ gY (.pick _ _ _); first | exact zv rfl rfl | exact zu rfl rfl | exact zt rfl rfl rfl) | (guard_target =~ gY (.binOp .neq _ _ _ _); first | exact zj rfl rfl | exact zn rfl rfl | exact zm rfl rfl | exact zg rfl rfl | exact zh rfl rfl | exact zl rfl rfl | exact zf rfl rfl | exact zp rfl rfl | exact zk rfl rfl | exact zo rfl rfl | exact zi (by first | decide | assumption) rfl rfl) | (guard_target =~ gY (.binOp .eql _ _ _ _); first | exact yl rfl rfl | exact yp rfl rfl | exact yo rfl rfl | exact yi rfl rfl | exact yj rfl rfl | exact yn rfl rfl | exact yh rfl rfl | exact yr rfl rfl | exact ym rfl rfl | exact yq rfl rfl | exact yk (by first | decide | assumption) rfl rfl) | (guard_target =~ gY (.unOp .not _ _); exact zs rfl) | (guard_target =~ gY (.binOp .lss _ _ _ _); exact zc rfl rfl) | (guard_target =~ gY (.binOp .leq _ _ _ _); exact yz rfl rfl) | (guard_target =~ gY (.binOp .gtr _ _ _ _); exact yv rfl rfl) | (guard_target =~ gY (.binOp .geq _ _ _ _); exact yu rfl rfl) | (guard_target =~ gY (.binOp .add _ _ _ _); exact ya rfl rfl (by omega)) | (guard_target =~ gY (.binOp .sub _ _ _ _); exact zw rfl rfl (by omega)) | (guard_target =~ gY (.call _); first | exact yx rfl | exact yy rfl) | (guard_target =~ gY (.build _ _); exact yg rfl rfl) | (guard_target =~ gY (.indexAddr _ _ _); exact yw rfl rfl (by omega) (by omega))) ?_
          | refine WU.skip rfl rfl rfl ?_)
      | (guard_target =~ gW (.seq _ _); refine W.seq ?_)
      | (guard_target =~ gW (.region _ _ false); refine W.reg ?_)
      | (guard_target =~ gW (.cond _ _ _); first | refine W.cond_t rfl ?_ | refine W.cond_f rfl ?_)
      | (guard_target =~ gW (.block _ _); refine W.block ?_)
      | (guard_target =~ gW .skip; refine W.skip ?_)
      | (guard_target =~ gW (.exit _); refine W.exit ?_)
      | (guard_target =~ gW .ret; refine W.ret ?_)
      | (guard_target =~ gT .normal; refine thn_normal ?_)
      | (guard_target =~ gT (.exit _); refine thn_exit ?_)
      | (guard_target =~ gT .ret; refine thn_ret ?_)
      | (guard_target =~ gI .normal; refine inb_normal ?_)
      | (guard_target =~ gI (.exit _); first | refine inb_hit ?_ | refine inb_miss rfl ?_)
      | (guard_target =~ gI .ret; refine inb_ret ?_)))
  exact fin1 (.inl rfl) rfl rfl ⟨rfl, rfl⟩

theorem c_ElemArray {b : Nat} {v : Value} {k : Int} {w : World} (h : Has w b (.cells #[.int .i64 k, v] 84)) :
    Calls Tryz.prog 79 #[.pointer (some ⟨b, 0, none⟩)] w (Ret fun r w' => r = v ∧ w = w') := by
  refine W.enter (args := [.pointer (some ⟨b, 0, none⟩)]) Tryz.func79 rfl Tryz.ntmps79 rfl rfl ?_
  (repeat (first
      | (guard_target =~ gU _; first
          | (guard_target =~ gU []; first | refine WU.nilk ?_ | refine WU.nil ?_)
          | refine WU.yld rfl rfl rfl (by first | (guard_target =~ gY (.move _); exact ze rfl) | (guard_target =~ gY (.assign _); exact yf rfl) | (guard_target =~ gY (.load _ _); first | exact za rfl rfl | exact zb rfl) | (guard_target =~ gY (.fieldAddr _ _ _); exact yt rfl) | (guard_target =~ gY (.nilCheck _); first | exact zq rfl | exact zr rfl) | (guard_target =~ gY (.extract _ _); exact ys rfl rfl) | (guard_target =~ gY (.typeAssert _ _ _ true); first | exact ye rfl rfl | exact yd rfl rfl (by first | rfl | assumption) | exact yc rfl rfl) | (guard_target =~ gY (.typeAssert _ _ _ false); exact yb rfl rfl) | (guard_target =~ gY (.makeInterface _ _); exact zd rfl rfl) | (guard_target =~ gY (.pick _ _ _); first | exact zv rfl rfl | exact zu rfl rfl | exact zt rfl rfl rfl) | (guard_target =~ gY (.binOp .neq _ _ _ _); first | exact zj rfl rfl | exact zn rfl rfl | exact zm rfl rfl | exact zg rfl rfl | exact zh rfl rfl | exact zl rfl rfl | exact zf rfl rfl | exact zp rfl rfl | exact zk rfl rfl | exact zo rfl rfl | exact zi (by first | decide | assumption) rfl rfl) | (guard_target =~ gY (.binOp .eql _ _ _ _); first | exact yl rfl rfl | exact yp rfl rfl | exact yo rfl rfl | exact yi rfl rfl | exact yj rfl rfl | exact yn rfl rfl | exact yh rfl rfl | exact yr rfl rfl | exact ym rfl rfl | exact yq rfl rfl | exact yk (by first | decide | assumption) rfl rfl) | (guard_target =~ gY (.unOp .not _ _); exact zs rfl) | (guard_target =~ gY (.binOp .lss _ _ _ _); exact zc rfl rfl) | (guard_target =~ gY (.binOp .leq _ _ _ _); exact yz rfl rfl) | (guard_target =~ gY (.binOp .gtr _ _ _ _); exact yv rfl rfl) | (guard_target =~ gY (.binOp .geq _ _ _ _); exact yu rfl rfl) | (guard_target =~ gY (.binOp .add _ _ _ _); exact ya rfl rfl (by omega)) | (guard_target =~ gY (.binOp .sub _ _ _ _); exact zw rfl rfl (by omega)) | (guard_target =~ gY (.call _); first | exact yx rfl | exact yy rfl) | (guard_target =~ gY (.build _ _); exact yg rfl rfl) | (guard_target =~ gY (.indexAddr _ _ _); exact yw rfl rfl (by omega) (by omega))) ?_
          | refine WU.skip rfl rfl rfl ?_)
      | (guard_target =~ gW (.seq _ _); refine W.seq ?_)
      | (guard_target =~ gW (.region _ _ false); refine W.reg ?_)
      | (guard_target =~ gW (.cond _ _ _); first | refine W.cond_t rfl ?_ | refine W.cond_f rfl ?_)
      | (guard_target =~ gW (.block _ _); refine W.block ?_)
      | (guard_target =~ gW .skip; refine W.skip ?_)
      | (guard_target =~ gW (.exit _); refine W.exit ?_)
      | (guard_target =~ gW .ret; refine W.ret ?_)
      | (guard_target =~ gT .normal; refine thn_normal ?_)
      | (guard_target =~ gT (.exit _); refine thn_exit ?_)
      | (guard_target =~ gT .ret; refine thn_ret ?_)
      | (guard_target =~ gI .normal; refine inb_normal ?_)
      | (guard_target =~ gI (.exit _); first | refine inb_hit ?_ | refine inb_miss rfl ?_)
      | (guard_target =~ gI .ret; refine inb_ret ?_)))
  exact fin1 (.inl rfl) rfl rfl ⟨rfl, rfl⟩

theorem c_IdenticalIgnoreTags {x y : GT} {vx vy : Value} {w : World} (hx : Rep w vx x) (hy : Rep w vy y) :
    Calls Tryz.prog 69 #[vx, vy] w (Ret fun r w' => r = .bool (decide (x = y)) ∧ Ext w w') := by
  refine W.enter (args := [vx, vy]) Tryz.func69 rfl Tryz.ntmps69 rfl rfl ?_
  (repeat (first
      | (guard_target =~ gU _; first
          | (guard_target =~ gU []; first | refine WU.nilk ?_ | refine WU.nil ?_)
          | refine WU.yld rfl rfl rfl (by first | (guard_target =~ gY (.move _); exact ze rfl) | (guard_target =~ gY (.assign _); exact yf rfl) | (guard_target =~ gY (.load _ _); first | exact za rfl rfl | exact zb rfl) | (guard_target =~ gY (.fieldAddr _ _ _); exact yt rfl) | (guard_target =~ gY (.nilCheck _); first | exact zq rfl | exact zr rfl) | (guard_target =~ gY (.extract _ _); exact ys rfl rfl) | (guard_target =~ gY (.typeAssert _ _ _ true); first | exact ye rfl rfl | exact yd rfl rfl (by first | rfl | assumption) | exact yc rfl rfl) | (guard_target =~ gY (.typeAssert _ _ _ false); exact yb rfl rfl) | (guard_target =~ gY (.makeInterface _ _); exact zd rfl rfl) | (guard_target =~ gY (.pick _ _ _); first | exact zv rfl rfl | exact zu rfl rfl | exact zt rfl rfl rfl) | (guard_target =~ gY (.binOp .neq _ _ _ _); first | exact zj rfl rfl | exact zn rfl rfl | exact zm rfl rfl | exact zg rfl rfl | exact zh rfl rfl | exact zl rfl rfl | exact zf rfl rfl | exact zp rfl rfl | exact zk rfl rfl | exact zo rfl rfl | exact zi (by first | decide | assumption) rfl rfl) | (guard_target =~ gY (.binOp .eql _ _ _ _); first | exact yl rfl rfl | exact yp rfl rfl | exact yo rfl rfl | exact yi rfl rfl | exact yj rfl rfl | exact yn rfl rfl | exact yh rfl rfl | exact yr rfl rfl | exact ym rfl rfl | exact yq rfl rfl | exact yk (by first | decide | assumption) rfl rfl) | (guard_target =~ gY (.unOp .not _ _); exact zs rfl) | (guard_target =~ gY (.binOp .lss _ _ _ _); exact zc rfl rfl) | (guard_target =~ gY (.binOp .leq _ _ _ _); exact yz rfl rfl) | (guard_target =~ gY (.binOp .gtr _ _ _ _); exact yv rfl rfl) | (guard_target =~ gY (.binOp .geq _ _ _ _); exact yu rfl rfl) | (guard_target =~ gY (.binOp .add _ _ _ _); exact ya rfl rfl (by omega)) | (guard_target =~ gY (.binOp .sub _ _ _ _); exact zw rfl rfl (by omega)) | (guard_target =~ gY (.call _); first | exact yx rfl | exact yy rfl) | (guard_target =~ gY (.build _ _); exact yg rfl rfl) | (guard_target =~ gY (.indexAddr _ _ _); exact yw rfl rfl (by omega) (by omega))) ?_
          | refine WU.skip rfl rfl rfl ?_)
      | (guard_target =~ gW (.seq _ _); refine W.seq ?_)
      | (guard_target =~ gW (.region _ _ false); refine W.reg ?_)
      | (guard_target =~ gW (.cond _ _ _); first | refine W.cond_t rfl ?_ | refine W.cond_f rfl ?_)
      | (guard_target =~ gW (.block _ _); refine W.block ?_)
      | (guard_target =~ gW .skip; refine W.skip ?_)
      | (guard_target =~ gW (.exit _); refine W.exit ?_)
      | (guard_target =~ gW .ret; refine W.ret ?_)
      | (guard_target =~ gT .normal; refine thn_normal ?_)
      | (guard_target =~ gT (.exit _); refine thn_exit ?_)
      | (guard_target =~ gT .ret; refine thn_ret ?_)
      | (guard_target =~ gI .normal; refine inb_normal ?_)
      | (guard_target =~ gI (.exit _); first | refine inb_hit ?_ | refine inb_miss rfl ?_)
      | (guard_target =~ gI .ret; refine inb_ret ?_)))
  refine WU.stp rfl rfl rfl stp_alloc ?_
  rintro _ w1 ⟨b1, rfl, n1⟩
  (repeat (first
      | (guard_target =~ gU _; first
          | (guard_target =~ gU []; first | refine WU.nilk ?_ | refine WU.nil ?_)
          | refine WU.yld rfl rfl rfl (by first | (guard_target =~ gY (.move _); exact ze rfl) | (guard_target =~ gY (.assign _); exact yf rfl) | (guard_target =~ gY (.load _ _); first | exact za rfl rfl | exact zb rfl) | (guard_target =~ gY (.fieldAddr _ _ _); exact yt rfl) | (guard_target =~ gY (.nilCheck _); first | exact zq rfl | exact zr rfl) | (guard_target =~ gY (.extract _ _); exact ys rfl rfl) | (guard_target =~ gY (.typeAssert _ _ _ true); first | exact ye rfl rfl | exact yd rfl rfl (by first | rfl | assumption) | exact yc rfl rfl) | (guard_target =~ gY (.typeAssert _ _ _ false); exact yb rfl rfl) | (guard_target =~ gY (.makeInterface _ _); exact zd rfl rfl) | (guard_target =~ gY (.pick _ _ _); first | exact zv rfl rfl | exact zu rfl rfl | exact zt rfl rfl rfl) | (guard_target =~ gY (.binOp .neq _ _ _ _); first | exact zj rfl rfl | exact zn rfl rfl | exact zm rfl rfl | exact zg rfl rfl | exact zh rfl rfl | exact zl rfl rfl | exact zf rfl rfl | exact zp rfl rfl | exact zk rfl rfl | exact zo rfl rfl | exact zi (by first | decide | assumption) rfl rfl) | (guard_target =~ gY (.binOp .eql _ _ _ _); first | exact yl rfl rfl | exact yp rfl rfl | exact yo rfl rfl | exact yi rfl rfl | exact yj rfl rfl | exact yn rfl rfl | exact yh rfl rfl | exact yr rfl rfl | exact ym rfl rfl | exact yq rfl rfl | exact yk (by first | decide | assumption) rfl rfl) | (guard_target =~ gY (.unOp .not _ _); exact zs rfl) | (guard_target =~ gY (.binOp .lss _ _ _ _); exact zc rfl rfl) | (guard_target =~ gY (.binOp .leq _ _ _ _); exact yz rfl rfl) | (guard_target =~ gY (.binOp .gtr _ _ _ _); exact yv rfl rfl) | (guard_target =~ gY (.binOp .geq _ _ _ _); exact yu rfl rfl) | (guard_target =~ gY (.binOp .add _ _ _ _); exact ya rfl rfl (by omega)) | (guard_target =~ gY (.binOp .sub _ _ _ _); exact zw rfl rfl (by omega)) | (guard_target =~ gY (.call _); first | exact yx rfl | exact yy rfl) | (guard_target =~ gY (.build _ _); exact yg rfl rfl) | (guard_target =~ gY (.indexAddr _ _ _); exact yw rfl rfl (by omega) (by omega))) ?_
          | refine WU.skip rfl rfl rfl ?_)
      | (guard_target =~ gW (.seq _ _); refine W.seq ?_)
      | (guard_target =~ gW (.region _ _ false); refine W.reg ?_)
      | (guard_target =~ gW (.cond _ _ _); first | refine W.cond_t rfl ?_ | refine W.cond_f rfl ?_)
      | (guard_target =~ gW (.block _ _); refine W.block ?_)
      | (guard_target =~ gW .skip; refine W.skip ?_)
      | (guard_target =~ gW (.exit _); refine W.exit ?_)
      | (guard_target =~ gW .ret; refine W.ret ?_)
      | (guard_target =~ gT .normal; refine thn_normal ?_)
      | (guard_target =~ gT (.exit _); refine thn_exit ?_)
      | (guard_target =~ gT .ret; refine thn_ret ?_)
      | (guard_target =~ gI .normal; refine inb_normal ?_)
      | (guard_target =~ gI (.exit _); first | refine inb_hit ?_ | refine inb_miss rfl ?_)
      | (guard_target =~ gI .ret; refine inb_ret ?_)))
  refine WU.stp0 rfl rfl (stp_store_cell rfl rfl rfl rfl) ?_
  rintro _ w2 u2
  have n2 := u2.ofNew n1
  (repeat (first
      | (guard_target =~ gU _; first
          | (guard_target =~ gU []; first | refine WU.nilk ?_ | refine WU.nil ?_)
          | refine WU.yld rfl rfl rfl (by first | (guard_target =~ gY (.move _); exact ze rfl) | (guard_target =~ gY (.assign _); exact yf rfl) | (guard_target =~ gY (.load _ _); first | exact za rfl rfl | exact zb rfl) | (guard_target =~ gY (.fieldAddr _ _ _); exact yt rfl) | (guard_target =~ gY (.nilCheck _); first | exact zq rfl | exact zr rfl) | (guard_target =~ gY (.extract _ _); exact ys rfl rfl) | (guard_target =~ gY (.typeAssert _ _ _ true); first | exact ye rfl rfl | exact yd rfl rfl (by first | rfl | assumption) | exact yc rfl rfl) | (guard_target =~ gY (.typeAssert _ _ _ false); exact yb rfl rfl) | (guard_target =~ gY (.makeInterface _ _); exact zd rfl rfl) | (guard_target =~ gY (.pick _ _ _); first | exact zv rfl rfl | exact zu rfl rfl | exact zt rfl rfl rfl) | (guard_target =~ gY (.binOp .neq _ _ _ _); first | exact zj rfl rfl | exact zn rfl rfl | exact zm rfl rfl | exact zg rfl rfl | exact zh rfl rfl | exact zl rfl rfl | exact zf rfl rfl | exact zp rfl rfl | exact zk rfl rfl | exact zo rfl rfl | exact zi (by first | decide | assumption) rfl rfl) | (guard_target =~ gY (.binOp .eql _ _ _ _); first | exact yl rfl rfl | exact yp rfl rfl | exact yo rfl rfl | exact yi rfl rfl | exact yj rfl rfl | exact yn rfl rfl | exact yh rfl rfl | exact yr rfl rfl | exact ym rfl rfl | exact yq rfl rfl | exact yk (by first | decide | assumption) rfl rfl) | (guard_target =~ gY (.unOp .not _ _); exact zs rfl) | (guard_target =~ gY (.binOp .lss _ _ _ _); exact zc rfl rfl) | (guard_target =~ gY (.binOp .leq _ _ _ _); exact yz rfl rfl) | (guard_target =~ gY (.binOp .gtr _ _ _ _); exact yv rfl rfl) | (guard_target =~ gY (.binOp .geq _ _ _ _); exact yu rfl rfl) | (guard_target =~ gY (.binOp .add _ _ _ _); exact ya rfl rfl (by omega)) | (guard_target =~ gY (.binOp .sub _ _ _ _); exact zw rfl rfl (by omega)) | (guard_target =~ gY (.call _); first | exact yx rfl | exact yy rfl) | (guard_target =~ gY (.build _ _); exact yg rfl rfl) | (guard_target =~ gY (.indexAddr _ _ _); exact yw rfl rfl (by omega) (by omega))) ?_
          | refine WU.skip rfl rfl rfl ?_)
      | (guard_target =~ gW (.seq _ _); refine W.seq ?_)
      | (guard_target =~ gW (.region _ _ false); refine W.reg ?_)
      | (guard_target =~ gW (.cond _ _ _); first | refine W.cond_t rfl ?_ | refine W.cond_f rfl ?_)
      | (guard_target =~ gW (.block _ _); refine W.block ?_)
      | (guard_target =~ gW .skip; refine W.skip ?_)
      | (guard_target =~ gW (.exit _); refine W.exit ?_)
      | (guard_target =~ gW .ret; refine W.ret ?_)
      | (guard_target =~ gT .normal; refine thn_normal ?_)
      | (guard_target =~ gT (.exit _); refine thn_exit ?_)
      | (guard_target =~ gT .ret; refine thn_ret ?_)
      | (guard_target =~ gI .normal; refine inb_normal ?_)
      | (guard_target =~ gI (.exit _); first | refine inb_hit ?_ | refine inb_miss rfl ?_)
      | (guard_target =~ gI .ret; refine inb_ret ?_)))
  refine WU.stp rfl rfl rfl (stp_call rfl (c_identical (ig := true) x y _ _ w2 b1 (hx.ext n2.ext) (hy.ext n2.ext) n2.has)) ?_
  rintro _ w3 ⟨rfl, x3⟩
  (repeat (first
      | (guard_target =~ gU _; first
          | (guard_target =~ gU []; first | refine WU.nilk ?_ | refine WU.nil ?_)
          | refine WU.yld rfl rfl rfl (by first | (guard_target =~ gY (.move _); exact ze rfl) | (guard_target =~ gY (.assign _); exact yf rfl) | (guard_target =~ gY (.load _ _); first | exact za rfl rfl | exact zb rfl) | (guard_target =~ gY (.fieldAddr _ _ _); exact yt rfl) | (guard_target =~ gY (.nilCheck _); first | exact zq rfl | exact zr rfl) | (guard_target =~ gY (.extract _ _); exact ys rfl rfl) | (guard_target =~ gY (.typeAssert _ _ _ true); first | exact ye rfl rfl | exact yd rfl rfl (by first | rfl | assumption) | exact yc rfl rfl) | (guard_target =~ gY (.typeAssert _ _ _ false); exact yb rfl rfl) | (guard_target =~ gY (.makeInterface _ _); exact zd rfl rfl) | (guard_target =~ gY (.pick _ _ _); first | exact zv rfl rfl | exact zu rfl rfl | exact zt rfl rfl rfl) | (guard_target =~ gY (.binOp .neq _ _ _ _); first | exact zj rfl rfl | exact zn rfl rfl | exact zm rfl rfl | exact zg rfl rfl | exact zh rfl rfl | exact zl rfl rfl | exact zf rfl rfl | exact zp rfl rfl | exact zk rfl rfl | exact zo rfl rfl | exact zi (by first | decide | assumption) rfl rfl) | (guard_target =~ gY (.binOp .eql _ _ _ _); first | exact yl rfl rfl | exact yp rfl rfl | exact yo rfl rfl | exact yi rfl rfl | exact yj rfl rfl | exact yn rfl rfl | exact yh rfl rfl | exact yr rfl rfl | exact ym rfl rfl | exact yq rfl rfl | exact yk (by first | decide | assumption) rfl rfl) | (guard_target =~ gY (.unOp .not _ _); exact zs rfl) | (guard_target =~ gY (.binOp .lss _ _ _ _); exact zc rfl rfl) | (guard_target =~ gY (.binOp .leq _ _ _ _); exact yz rfl rfl) | (guard_target =~ gY (.binOp .gtr _ _ _ _); exact yv rfl rfl) | (guard_target =~ gY (.binOp .geq _ _ _ _); exact yu rfl rfl) | (guard_target =~ gY (.binOp .add _ _ _ _); exact ya rfl rfl (by omega)) | (guard_target =~ gY (.binOp .sub _ _ _ _); exact zw rfl rfl (by omega)) | (guard_target =~ gY (.call _); first | exact yx rfl | exact yy rfl) | (guard_target =~ gY (.build _ _); exact yg rfl rfl) | (guard_target =~ gY (.indexAddr _ _ _); exact yw rfl rfl (by omega) (by omega))) ?_
          | refine WU.skip rfl rfl rfl ?_)
      | (guard_target =~ gW (.seq _ _); refine W.seq ?_)
      | (guard_target =~ gW (.region _ _ false); refine W.reg ?_)
      | (guard_target =~ gW (.cond _ _ _); first | refine W.cond_t rfl ?_ | refine W.cond_f rfl ?_)
      | (guard_target =~ gW (.block _ _); refine W.block ?_)
      | (guard_target =~ gW .skip; refine W.skip ?_)
      | (guard_target =~ gW (.exit _); refine W.exit ?_)
      | (guard_target =~ gW .ret; refine W.ret ?_)
      | (guard_target =~ gT .normal; refine thn_normal ?_)
      | (guard_target =~ gT (.exit _); refine thn_exit ?_)
      | (guard_target =~ gT .ret; refine thn_ret ?_)
      | (guard_target =~ gI .normal; refine inb_normal ?_)
      | (guard_target =~ gI (.exit _); first | refine inb_hit ?_ | refine inb_miss rfl ?_)
      | (guard_target =~ gI .ret; refine inb_ret ?_)))
  exact fin1 (.inl rfl) rfl rfl ⟨rfl, n2.ext.trans x3⟩
end Go.Proofs.YtnmodbmaokilaaaGreatDoor

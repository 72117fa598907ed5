/- The plain family, part 8: Comparable, over plain types. -/
import Derived.Test.YtnmodbmaokilaaaGreatDoorP7
import Derived.Test.YtnmodbmaokilaaaGreatDoorKh
namespace Go.Proofs.YtnmodbmaokilaaaGreatDoor
open Go Go.Kd
set_option maxRecDepth 100000

instance : Zv Tryz.prog 4 (.bool false) := zv_of (by kernel_rfl)

def cmpG : GT → Bool
  | .basic _ | .ptr _ | .chan _ _ => true
  | .slice _ | .map _ _ => false
  | .array _ t => cmpG t
def szG : GT → Nat
  | .basic _ => 0
  | .ptr t | .chan _ t | .slice t | .array _ t => szG t + 1
  | .map k t => szG k + szG t + 1
/-- nil, or an error -/
def Rz (v : Value) (b : Bool) : Prop := (b = true ∧ v = .pointer none) ∨ (b = false ∧ ∃ k, v = .pointer (some ⟨k, 0, none⟩))

/-- the map of types seen: greater ones -/
def Seen (w0 : World) (x : GT) (es : Array MapEntry) : Prop := ∀ m ∈ es.toList, ∃ y, Rep w0 m.key y ∧ szG x < szG y

theorem Seen.noKey {w0 w : World} {x : GT} {es : Array MapEntry} {T b : Nat} (h : Seen w0 x es) (hx : Rep w0 (.iface T (.pointer (some ⟨b, 0, none⟩))) x) (he : Ext w0 w) :
    NoKey w T ⟨b, 0, none⟩ es.toList := fun m hm => by
  obtain ⟨y, h1, h2⟩ := h m hm
  obtain ⟨b', h3, h4⟩ := h1.shape
  refine ⟨_, _, h3, h4.ext' he, fun hT ha => ?_⟩
  rw [h3, hT, ha] at h1
  have := h1.det hx
  subst this
  omega
theorem Seen.push {w0 : World} {x x' : GT} {es : Array MapEntry} {k v : Value} {c : Nat} (h : Seen w0 x es) (hk : Rep w0 k x) (hs : szG x' < szG x) : Seen w0 x' (es.push ⟨k, v, c⟩) := fun m hm => by
  rw [Array.toList_push, List.mem_append, List.mem_singleton] at hm
  rcases hm with hm | rfl
  · obtain ⟨y, h1, h2⟩ := h m hm
    exact ⟨y, h1, by omega⟩
  · exact ⟨x, hk, hs⟩

theorem c_typeErrorf (s : ByteArray) (a : Option Addr) (l c : Nat) (w : World) :
    Calls Tryz.prog 57 #[.string s, .slice a l c] w (Ret fun r w' => (∃ k, r = .pointer (some ⟨k, 0, none⟩)) ∧ Ext w w') := by
  refine W.enter (args := [.string s, .slice a l c]) Tryz.func57 rfl Tryz.ntmps57 rfl rfl ?_
  (repeat (first
      | (guard_target =~ gU _; first
          | (guard_target =~ gU []; first | refine WU.nilk ?_ | refine WU.nil ?_)
          | refine WU.yld rfl rfl rfl (by first | (guard_target =~ gY (.move _); exact ze rfl) | (guard_target =~ gY (.assign _); exact yf rfl) | (guard_target =~ gY (.load _ _); (first| exact za rfl rfl|exact zb rfl)) | (guard_target =~ gY (.fieldAddr _ _ _); exact yt rfl) | (guard_target =~ gY (.nilCheck _); (first| exact zq rfl|exact zr rfl)) | (guard_target =~ gY (.extract _ _); exact ys rfl rfl) | (guard_target =~ gY (.typeAssert _ _ _ true); (first| exact ye rfl rfl|exact yd rfl rfl (by first | rfl | assumption)|exact yc rfl rfl)) | (guard_target =~ gY (.typeAssert _ _ _ false); exact yb rfl rfl) | (guard_target =~ gY (.makeInterface _ _); exact zd rfl rfl) | (guard_target =~ gY (.pick _ _ _); (first| exact zv rfl rfl|exact zu rfl rfl|exact zt rfl rfl rfl)) | (guard_target =~ gY (.binOp .neq _ _ _ _); (first| exact zj rfl rfl|exact zn rfl rfl|exact zm rfl rfl|exact zg rfl rfl|exact zh rfl rfl|exact zl rfl rfl|exact zf rfl rfl|exact zp rfl rfl|exact zk rfl rfl|exact zo rfl rfl|exact zi (by first | decide | assumption) rfl rfl)) | (guard_target =~ gY (.binOp .eql _ _ _ _); (first| exact yl rfl rfl|exact yp rfl rfl|exact yo rfl rfl|exact yi rfl rfl|exact yj rfl rfl|exact yn rfl rfl|exact yh rfl rfl|exact yr rfl rfl|exact ym rfl rfl|exact yq rfl rfl|exact yk (by first | decide | assumption) rfl rfl)) | (guard_target =~ gY (.unOp .not _ _); exact zs rfl) | (guard_target =~ gY (.binOp .lss _ _ _ _); exact zc rfl rfl) | (guard_target =~ gY (.binOp .leq _ _ _ _); exact yz rfl rfl) | (guard_target =~ gY (.binOp .gtr _ _ _ _); exact yv rfl rfl) | (guard_target =~ gY (.binOp .geq _ _ _ _); exact yu rfl rfl) | (guard_target =~ gY (.binOp .add _ _ _ _); exact ya rfl rfl (by omega)) | (guard_target =~ gY (.binOp .sub _ _ _ _); exact zw rfl rfl (by omega)) | (guard_target =~ gY (.call _); (first| exact yx rfl|exact yy rfl)) | (guard_target =~ gY (.build _ _); exact yg rfl rfl) | (guard_target =~ gY (.indexAddr _ _ _); exact yw rfl rfl (by omega) (by omega))) ?_
          | refine WU.skip rfl rfl rfl ?_)
      | (guard_target =~ gW (.seq _ _); refine W.seq ?_)
      | (guard_target =~ gW (.region _ _ false); refine W.reg ?_)
      | (guard_target =~ gW (.cond _ _ _); first | refine W.cond_t rfl ?_ | refine W.cond_f rfl ?_)
      | (guard_target =~ gW (.block _ _); refine W.block ?_)
      | (guard_target =~ gW .skip; refine W.skip ?_)
      | (guard_target =~ gW (.exit _); refine W.exit ?_)
      | (guard_target =~ gW .ret; refine W.ret ?_)
      | (guard_target =~ gT .normal; refine thn_normal ?_)
      | (guard_target =~ gT (.exit _); refine thn_exit ?_)
      | (guard_target =~ gT .ret; refine thn_ret ?_)
      | (guard_target =~ gI .normal; refine inb_normal ?_)
      | (guard_target =~ gI (.exit _); first | refine inb_hit ?_ | refine inb_miss rfl ?_)
      | (guard_target =~ gI .ret; refine inb_ret ?_)))
  generalize (s.toList == ({ data := #[] } : ByteArray).toList) = q
  cases q
  · (repeat (first
      | (guard_target =~ gU _; first
          | (guard_target =~ gU []; first | refine WU.nilk ?_ | refine WU.nil ?_)
          | refine WU.yld rfl rfl rfl (by first | (guard_target =~ gY (.move _); exact ze rfl) | (guard_target =~ gY (.assign _); exact yf rfl) | (guard_target =~ gY (.load _ _); (first| exact za rfl rfl|exact zb rfl)) | (guard_target =~ gY (.fieldAddr _ _ _); exact yt rfl) | (guard_target =~ gY (.nilCheck _); (first| exact zq rfl|exact zr rfl)) | (guard_target =~ gY (.extract _ _); exact ys rfl rfl) | (guard_target =~ gY (.typeAssert _ _ _ true); (first| exact ye rfl rfl|exact yd rfl rfl (by first | rfl | assumption)|exact yc rfl rfl)) | (guard_target =~ gY (.typeAssert _ _ _ false); exact yb rfl rfl) | (guard_target =~ gY (.makeInterface _ _); exact zd rfl rfl) | (guard_target =~ gY (.pick _ _ _); (first| exact zv rfl rfl|exact zu rfl rfl|exact zt rfl rfl rfl)) | (guard_target =~ gY (.binOp .neq _ _ _ _); (first| exact zj rfl rfl|exact zn rfl rfl|exact zm rfl rfl|exact zg rfl rfl|exact zh rfl rfl|exact zl rfl rfl|exact zf rfl rfl|exact zp rfl rfl|exact zk rfl rfl|exact zo rfl rfl|exact zi (by first | decide | assumption) rfl rfl)) | (guard_target =~ gY (.binOp .eql _ _ _ _); (first| exact yl rfl rfl|exact yp rfl rfl|exact yo rfl rfl|exact yi rfl rfl|exact yj rfl rfl|exact yn rfl rfl|exact yh rfl rfl|exact yr rfl rfl|exact ym rfl rfl|exact yq rfl rfl|exact yk (by first | decide | assumption) rfl rfl)) | (guard_target =~ gY (.unOp .not _ _); exact zs rfl) | (guard_target =~ gY (.binOp .lss _ _ _ _); exact zc rfl rfl) | (guard_target =~ gY (.binOp .leq _ _ _ _); exact yz rfl rfl) | (guard_target =~ gY (.binOp .gtr _ _ _ _); exact yv rfl rfl) | (guard_target =~ gY (.binOp .geq _ _ _ _); exact yu rfl rfl) | (guard_target =~ gY (.binOp .add _ _ _ _); exact ya rfl rfl (by omega)) | (guard_target =~ gY (.binOp .sub _ _ _ _); exact zw rfl rfl (by omega)) | (guard_target =~ gY (.call _); (first| exact yx rfl|exact yy rfl)) | (guard_target =~ gY (.build _ _); exact yg rfl rfl) | (guard_target =~ gY (.indexAddr _ _ _); exact yw rfl rfl (by omega) (by omega))) ?_
          | refine WU.skip rfl rfl rfl ?_)
      | (guard_target =~ gW (.seq _ _); refine W.seq ?_)
      | (guard_target =~ gW (.region _ _ false); refine W.reg ?_)
      | (guard_target =~ gW (.cond _ _ _); first | refine W.cond_t rfl ?_ | refine W.cond_f rfl ?_)
      | (guard_target =~ gW (.block _ _); refine W.block ?_)
      | (guard_target =~ gW .skip; refine W.skip ?_)
      | (guard_target =~ gW (.exit _); refine W.exit ?_)
      | (guard_target =~ gW .ret; refine W.ret ?_)
      | (guard_target =~ gT .normal; refine thn_normal ?_)
      | (guard_target =~ gT (.exit _); refine thn_exit ?_)
      | (guard_target =~ gT .ret; refine thn_ret ?_)
      | (guard_target =~ gI .normal; refine inb_normal ?_)
      | (guard_target =~ gI (.exit _); first | refine inb_hit ?_ | refine inb_miss rfl ?_)
      | (guard_target =~ gI .ret; refine inb_ret ?_)))
    refine WU.stp rfl rfl rfl (by first | exact stp_box rfl rfl | exact stp_box1 rfl rfl) ?_
    rintro _ w1 ⟨b1, rfl, n1⟩
    (repeat (first
        | (guard_target =~ gU _; first
            | (guard_target =~ gU []; first | refine WU.nilk ?_ | refine WU.nil ?_)
            | refine WU.yld rfl rfl rfl (by first | (guard_target =~ gY (.move _); exact ze rfl) | (guard_target =~ gY (.assign _); exact yf rfl) | (guard_target =~ gY (.load _ _); (first| exact za rfl rfl|exact zb rfl)) | (guard_target =~ gY (.fieldAddr _ _ _); exact yt rfl) | (guard_target =~ gY (.nilCheck _); (first| exact zq rfl|exact zr rfl)) | (guard_target =~ gY (.extract _ _); exact ys rfl rfl) | (guard_target =~ gY (.typeAssert _ _ _ true); (first| exact ye rfl rfl|exact yd rfl rfl (by first | rfl | assumption)|exact yc rfl rfl)) | (guard_target =~ gY (.typeAssert _ _ _ false); exact yb rfl rfl) | (guard_target =~ gY (.makeInterface _ _); exact zd rfl rfl) | (guard_target =~ gY (.pick _ _ _); (first| exact zv rfl rfl|exact zu rfl rfl|exact zt rfl rfl rfl)) | (guard_target =~ gY (.binOp .neq _ _ _ _); (first| exact zj rfl rfl|exact zn rfl rfl|exact zm rfl rfl|exact zg rfl rfl|exact zh rfl rfl|exact zl rfl rfl|exact zf rfl rfl|exact zp rfl rfl|exact zk rfl rfl|exact zo rfl rfl|exact zi (by first | decide | assumption) rfl rfl)) | (guard_target =~ gY (.binOp .eql _ _ _ _); (first| exact yl rfl rfl|exact yp rfl rfl|exact yo rfl rfl|exact yi rfl rfl|exact yj rfl rfl|exact yn rfl rfl|exact yh rfl rfl|exact yr rfl rfl|exact ym rfl rfl|exact yq rfl rfl|exact yk (by first | decide | assumption) rfl rfl)) | (guard_target =~ gY (.unOp .not _ _); exact zs rfl) | (guard_target =~ gY (.binOp .lss _ _ _ _); exact zc rfl rfl) | (guard_target =~ gY (.binOp .leq _ _ _ _); exact yz rfl rfl) | (guard_target =~ gY (.binOp .gtr _ _ _ _); exact yv rfl rfl) | (guard_target =~ gY (.binOp .geq _ _ _ _); exact yu rfl rfl) | (guard_target =~ gY (.binOp .add _ _ _ _); exact ya rfl rfl (by omega)) | (guard_target =~ gY (.binOp .sub _ _ _ _); exact zw rfl rfl (by omega)) | (guard_target =~ gY (.call _); (first| exact yx rfl|exact yy rfl)) | (guard_target =~ gY (.build _ _); exact yg rfl rfl) | (guard_target =~ gY (.indexAddr _ _ _); exact yw rfl rfl (by omega) (by omega))) ?_
            | refine WU.skip rfl rfl rfl ?_)
        | (guard_target =~ gW (.seq _ _); refine W.seq ?_)
        | (guard_target =~ gW (.region _ _ false); refine W.reg ?_)
        | (guard_target =~ gW (.cond _ _ _); first | refine W.cond_t rfl ?_ | refine W.cond_f rfl ?_)
        | (guard_target =~ gW (.block _ _); refine W.block ?_)
        | (guard_target =~ gW .skip; refine W.skip ?_)
        | (guard_target =~ gW (.exit _); refine W.exit ?_)
        | (guard_target =~ gW .ret; refine W.ret ?_)
        | (guard_target =~ gT .normal; refine thn_normal ?_)
        | (guard_target =~ gT (.exit _); refine thn_exit ?_)
        | (guard_target =~ gT .ret; refine thn_ret ?_)
        | (guard_target =~ gI .normal; refine inb_normal ?_)
        | (guard_target =~ gI (.exit _); first | refine inb_hit ?_ | refine inb_miss rfl ?_)
        | (guard_target =~ gI .ret; refine inb_ret ?_)))
    exact fin1 (.inl rfl) rfl rfl ⟨⟨b1, rfl⟩, n1.ext⟩
  · (repeat (first
      | (guard_target =~ gU _; first
          | (guard_target =~ gU []; first | refine WU.nilk ?_ | refine WU.nil ?_)
          | refine WU.yld rfl rfl rfl (by first | (guard_target =~ gY (.move _); exact ze rfl) | (guard_target =~ gY (.assign _); exact yf rfl) | (guard_target =~ gY (.load _ _); (first| exact za rfl rfl|exact zb rfl)) | (guard_target =~ gY (.fieldAddr _ _ _); exact yt rfl) | (guard_target =~ gY (.nilCheck _); (first| exact zq rfl|exact zr rfl)) | (guard_target =~ gY (.extract _ _); exact ys rfl rfl) | (guard_target =~ gY (.typeAssert _ _ _ true); (first| exact ye rfl rfl|exact yd rfl rfl (by first | rfl | assumption)|exact yc rfl rfl)) | (guard_target =~ gY (.typeAssert _ _ _ false); exact yb rfl rfl) | (guard_target =~ gY (.makeInterface _ _); exact zd rfl rfl) | (guard_target =~ gY (.pick _ _ _); (first| exact zv rfl rfl|exact zu rfl rfl|exact zt rfl rfl rfl)) | (guard_target =~ gY (.binOp .neq _ _ _ _); (first| exact zj rfl rfl|exact zn rfl rfl|exact zm rfl rfl|exact zg rfl rfl|exact zh rfl rfl|exact zl rfl rfl|exact zf rfl rfl|exact zp rfl rfl|exact zk rfl rfl|exact zo rfl rfl|exact zi (by first | decide | assumption) rfl rfl)) | (guard_target =~ gY (.binOp .eql _ _ _ _); (first| exact yl rfl rfl|exact yp rfl rfl|exact yo rfl rfl|exact yi rfl rfl|exact yj rfl rfl|exact yn rfl rfl|exact yh rfl rfl|exact yr rfl rfl|exact ym rfl rfl|exact yq rfl rfl|exact yk (by first | decide | assumption) rfl rfl)) | (guard_target =~ gY (.unOp .not _ _); exact zs rfl) | (guard_target =~ gY (.binOp .lss _ _ _ _); exact zc rfl rfl) | (guard_target =~ gY (.binOp .leq _ _ _ _); exact yz rfl rfl) | (guard_target =~ gY (.binOp .gtr _ _ _ _); exact yv rfl rfl) | (guard_target =~ gY (.binOp .geq _ _ _ _); exact yu rfl rfl) | (guard_target =~ gY (.binOp .add _ _ _ _); exact ya rfl rfl (by omega)) | (guard_target =~ gY (.binOp .sub _ _ _ _); exact zw rfl rfl (by omega)) | (guard_target =~ gY (.call _); (first| exact yx rfl|exact yy rfl)) | (guard_target =~ gY (.build _ _); exact yg rfl rfl) | (guard_target =~ gY (.indexAddr _ _ _); exact yw rfl rfl (by omega) (by omega))) ?_
          | refine WU.skip rfl rfl rfl ?_)
      | (guard_target =~ gW (.seq _ _); refine W.seq ?_)
      | (guard_target =~ gW (.region _ _ false); refine W.reg ?_)
      | (guard_target =~ gW (.cond _ _ _); first | refine W.cond_t rfl ?_ | refine W.cond_f rfl ?_)
      | (guard_target =~ gW (.block _ _); refine W.block ?_)
      | (guard_target =~ gW .skip; refine W.skip ?_)
      | (guard_target =~ gW (.exit _); refine W.exit ?_)
      | (guard_target =~ gW .ret; refine W.ret ?_)
      | (guard_target =~ gT .normal; refine thn_normal ?_)
      | (guard_target =~ gT (.exit _); refine thn_exit ?_)
      | (guard_target =~ gT .ret; refine thn_ret ?_)
      | (guard_target =~ gI .normal; refine inb_normal ?_)
      | (guard_target =~ gI (.exit _); first | refine inb_hit ?_ | refine inb_miss rfl ?_)
      | (guard_target =~ gI .ret; refine inb_ret ?_)))
    refine WU.stp rfl rfl rfl stp_alloc ?_
    rintro _ w1 ⟨b1, rfl, n1⟩
    (repeat (first
        | (guard_target =~ gU _; first
            | (guard_target =~ gU []; first | refine WU.nilk ?_ | refine WU.nil ?_)
            | refine WU.yld rfl rfl rfl (by first | (guard_target =~ gY (.move _); exact ze rfl) | (guard_target =~ gY (.assign _); exact yf rfl) | (guard_target =~ gY (.load _ _); (first| exact za rfl rfl|exact zb rfl)) | (guard_target =~ gY (.fieldAddr _ _ _); exact yt rfl) | (guard_target =~ gY (.nilCheck _); (first| exact zq rfl|exact zr rfl)) | (guard_target =~ gY (.extract _ _); exact ys rfl rfl) | (guard_target =~ gY (.typeAssert _ _ _ true); (first| exact ye rfl rfl|exact yd rfl rfl (by first | rfl | assumption)|exact yc rfl rfl)) | (guard_target =~ gY (.typeAssert _ _ _ false); exact yb rfl rfl) | (guard_target =~ gY (.makeInterface _ _); exact zd rfl rfl) | (guard_target =~ gY (.pick _ _ _); (first| exact zv rfl rfl|exact zu rfl rfl|exact zt rfl rfl rfl)) | (guard_target =~ gY (.binOp .neq _ _ _ _); (first| exact zj rfl rfl|exact zn rfl rfl|exact zm rfl rfl|exact zg rfl rfl|exact zh rfl rfl|exact zl rfl rfl|exact zf rfl rfl|exact zp rfl rfl|exact zk rfl rfl|exact zo rfl rfl|exact zi (by first | decide | assumption) rfl rfl)) | (guard_target =~ gY (.binOp .eql _ _ _ _); (first| exact yl rfl rfl|exact yp rfl rfl|exact yo rfl rfl|exact yi rfl rfl|exact yj rfl rfl|exact yn rfl rfl|exact yh rfl rfl|exact yr rfl rfl|exact ym rfl rfl|exact yq rfl rfl|exact yk (by first | decide | assumption) rfl rfl)) | (guard_target =~ gY (.unOp .not _ _); exact zs rfl) | (guard_target =~ gY (.binOp .lss _ _ _ _); exact zc rfl rfl) | (guard_target =~ gY (.binOp .leq _ _ _ _); exact yz rfl rfl) | (guard_target =~ gY (.binOp .gtr _ _ _ _); exact yv rfl rfl) | (guard_target =~ gY (.binOp .geq _ _ _ _); exact yu rfl rfl) | (guard_target =~ gY (.binOp .add _ _ _ _); exact ya rfl rfl (by omega)) | (guard_target =~ gY (.binOp .sub _ _ _ _); exact zw rfl rfl (by omega)) | (guard_target =~ gY (.call _); (first| exact yx rfl|exact yy rfl)) | (guard_target =~ gY (.build _ _); exact yg rfl rfl) | (guard_target =~ gY (.indexAddr _ _ _); exact yw rfl rfl (by omega) (by omega))) ?_
            | refine WU.skip rfl rfl rfl ?_)
        | (guard_target =~ gW (.seq _ _); refine W.seq ?_)
        | (guard_target =~ gW (.region _ _ false); refine W.reg ?_)
        | (guard_target =~ gW (.cond _ _ _); first | refine W.cond_t rfl ?_ | refine W.cond_f rfl ?_)
        | (guard_target =~ gW (.block _ _); refine W.block ?_)
        | (guard_target =~ gW .skip; refine W.skip ?_)
        | (guard_target =~ gW (.exit _); refine W.exit ?_)
        | (guard_target =~ gW .ret; refine W.ret ?_)
        | (guard_target =~ gT .normal; refine thn_normal ?_)
        | (guard_target =~ gT (.exit _); refine thn_exit ?_)
        | (guard_target =~ gT .ret; refine thn_ret ?_)
        | (guard_target =~ gI .normal; refine inb_normal ?_)
        | (guard_target =~ gI (.exit _); first | refine inb_hit ?_ | refine inb_miss rfl ?_)
        | (guard_target =~ gI .ret; refine inb_ret ?_)))
    exact fin1 (.inl rfl) rfl rfl ⟨⟨b1, rfl⟩, n1.ext⟩

theorem c_Und_basic (b : Nat) (w : World) : Calls Tryz.prog 215 #[.pointer (some ⟨b, 0, none⟩)] w (Ret fun r w' => r = .iface 50 (.pointer (some ⟨b, 0, none⟩)) ∧ w = w') := by
  refine W.enter (args := [.pointer (some ⟨b, 0, none⟩)]) Tryz.func215 rfl Tryz.ntmps215 rfl rfl ?_
  (repeat (first
      | (guard_target =~ gU _; first
          | (guard_target =~ gU []; first | refine WU.nilk ?_ | refine WU.nil ?_)
          | refine WU.yld rfl rfl rfl (by first | (guard_target =~ gY (.move _); exact ze rfl) | (guard_target =~ gY (.assign _); exact yf rfl) | (guard_target =~ gY (.load _ _); (first| exact za rfl rfl|exact zb rfl)) | (guard_target =~ gY (.fieldAddr _ _ _); exact yt rfl) | (guard_target =~ gY (.nilCheck _); (first| exact zq rfl|exact zr rfl)) | (guard_target =~ gY (.extract _ _); exact ys rfl rfl) | (guard_target =~ gY (.typeAssert _ _ _ true); (first| exact ye rfl rfl|exact yd rfl rfl (by first | rfl | assumption)|exact yc rfl rfl)) | (guard_target =~ gY (.typeAssert _ _ _ false); exact yb rfl rfl) | (guard_target =~ gY (.makeInterface _ _); exact zd rfl rfl) | (guard_target =~ gY (.pick _ _ _); (first| exact zv rfl rfl|exact zu rfl rfl|exact zt rfl rfl rfl)) | (guard_target =~ gY (.binOp .neq _ _ _ _); (first| exact zj rfl rfl|exact zn rfl rfl|exact zm rfl rfl|exact zg rfl rfl|exact zh rfl rfl|exact zl rfl rfl|exact zf rfl rfl|exact zp rfl rfl|exact zk rfl rfl|exact zo rfl rfl|exact zi (by first | decide | assumption) rfl rfl)) | (guard_target =~ gY (.binOp .eql _ _ _ _); (first| exact yl rfl rfl|exact yp rfl rfl|exact yo rfl rfl|exact yi rfl rfl|exact yj rfl rfl|exact yn rfl rfl|exact yh rfl rfl|exact yr rfl rfl|exact ym rfl rfl|exact yq rfl rfl|exact yk (by first | decide | assumption) rfl rfl)) | (guard_target =~ gY (.unOp .not _ _); exact zs rfl) | (guard_target =~ gY (.binOp .lss _ _ _ _); exact zc rfl rfl) | (guard_target =~ gY (.binOp .leq _ _ _ _); exact yz rfl rfl) | (guard_target =~ gY (.binOp .gtr _ _ _ _); exact yv rfl rfl) | (guard_target =~ gY (.binOp .geq _ _ _ _); exact yu rfl rfl) | (guard_target =~ gY (.binOp .add _ _ _ _); exact ya rfl rfl (by omega)) | (guard_target =~ gY (.binOp .sub _ _ _ _); exact zw rfl rfl (by omega)) | (guard_target =~ gY (.call _); (first| exact yx rfl|exact yy rfl)) | (guard_target =~ gY (.build _ _); exact yg rfl rfl) | (guard_target =~ gY (.indexAddr _ _ _); exact yw rfl rfl (by omega) (by omega))) ?_
          | refine WU.skip rfl rfl rfl ?_)
      | (guard_target =~ gW (.seq _ _); refine W.seq ?_)
      | (guard_target =~ gW (.region _ _ false); refine W.reg ?_)
      | (guard_target =~ gW (.cond _ _ _); first | refine W.cond_t rfl ?_ | refine W.cond_f rfl ?_)
      | (guard_target =~ gW (.block _ _); refine W.block ?_)
      | (guard_target =~ gW .skip; refine W.skip ?_)
      | (guard_target =~ gW (.exit _); refine W.exit ?_)
      | (guard_target =~ gW .ret; refine W.ret ?_)
      | (guard_target =~ gT .normal; refine thn_normal ?_)
      | (guard_target =~ gT (.exit _); refine thn_exit ?_)
      | (guard_target =~ gT .ret; refine thn_ret ?_)
      | (guard_target =~ gI .normal; refine inb_normal ?_)
      | (guard_target =~ gI (.exit _); first | refine inb_hit ?_ | refine inb_miss rfl ?_)
      | (guard_target =~ gI .ret; refine inb_ret ?_)))
  exact fin1 (.inl rfl) rfl rfl ⟨rfl, rfl⟩

theorem c_Und_ptr (b : Nat) (w : World) : Calls Tryz.prog 216 #[.pointer (some ⟨b, 0, none⟩)] w (Ret fun r w' => r = .iface 54 (.pointer (some ⟨b, 0, none⟩)) ∧ w = w') := by
  refine W.enter (args := [.pointer (some ⟨b, 0, none⟩)]) Tryz.func216 rfl Tryz.ntmps216 rfl rfl ?_
  (repeat (first
      | (guard_target =~ gU _; first
          | (guard_target =~ gU []; first | refine WU.nilk ?_ | refine WU.nil ?_)
          | refine WU.yld rfl rfl rfl (by first | (guard_target =~ gY (.move _); exact ze rfl) | (guard_target =~ gY (.assign _); exact yf rfl) | (guard_target =~ gY (.load _ _); (first| exact za rfl rfl|exact zb rfl)) | (guard_target =~ gY (.fieldAddr _ _ _); exact yt rfl) | (guard_target =~ gY (.nilCheck _); (first| exact zq rfl|exact zr rfl)) | (guard_target =~ gY (.extract _ _); exact ys rfl rfl) | (guard_target =~ gY (.typeAssert _ _ _ true); (first| exact ye rfl rfl|exact yd rfl rfl (by first | rfl | assumption)|exact yc rfl rfl)) | (guard_target =~ gY (.typeAssert _ _ _ false); exact yb rfl rfl) | (guard_target =~ gY (.makeInterface _ _); exact zd rfl rfl) | (guard_target =~ gY (.pick _ _ _); (first| exact zv rfl rfl|exact zu rfl rfl|exact zt rfl rfl rfl)) | (guard_target =~ gY (.binOp .neq _ _ _ _); (first| exact zj rfl rfl|exact zn rfl rfl|exact zm rfl rfl|exact zg rfl rfl|exact zh rfl rfl|exact zl rfl rfl|exact zf rfl rfl|exact zp rfl rfl|exact zk rfl rfl|exact zo rfl rfl|exact zi (by first | decide | assumption) rfl rfl)) | (guard_target =~ gY (.binOp .eql _ _ _ _); (first| exact yl rfl rfl|exact yp rfl rfl|exact yo rfl rfl|exact yi rfl rfl|exact yj rfl rfl|exact yn rfl rfl|exact yh rfl rfl|exact yr rfl rfl|exact ym rfl rfl|exact yq rfl rfl|exact yk (by first | decide | assumption) rfl rfl)) | (guard_target =~ gY (.unOp .not _ _); exact zs rfl) | (guard_target =~ gY (.binOp .lss _ _ _ _); exact zc rfl rfl) | (guard_target =~ gY (.binOp .leq _ _ _ _); exact yz rfl rfl) | (guard_target =~ gY (.binOp .gtr _ _ _ _); exact yv rfl rfl) | (guard_target =~ gY (.binOp .geq _ _ _ _); exact yu rfl rfl) | (guard_target =~ gY (.binOp .add _ _ _ _); exact ya rfl rfl (by omega)) | (guard_target =~ gY (.binOp .sub _ _ _ _); exact zw rfl rfl (by omega)) | (guard_target =~ gY (.call _); (first| exact yx rfl|exact yy rfl)) | (guard_target =~ gY (.build _ _); exact yg rfl rfl) | (guard_target =~ gY (.indexAddr _ _ _); exact yw rfl rfl (by omega) (by omega))) ?_
          | refine WU.skip rfl rfl rfl ?_)
      | (guard_target =~ gW (.seq _ _); refine W.seq ?_)
      | (guard_target =~ gW (.region _ _ false); refine W.reg ?_)
      | (guard_target =~ gW (.cond _ _ _); first | refine W.cond_t rfl ?_ | refine W.cond_f rfl ?_)
      | (guard_target =~ gW (.block _ _); refine W.block ?_)
      | (guard_target =~ gW .skip; refine W.skip ?_)
      | (guard_target =~ gW (.exit _); refine W.exit ?_)
      | (guard_target =~ gW .ret; refine W.ret ?_)
      | (guard_target =~ gT .normal; refine thn_normal ?_)
      | (guard_target =~ gT (.exit _); refine thn_exit ?_)
      | (guard_target =~ gT .ret; refine thn_ret ?_)
      | (guard_target =~ gI .normal; refine inb_normal ?_)
      | (guard_target =~ gI (.exit _); first | refine inb_hit ?_ | refine inb_miss rfl ?_)
      | (guard_target =~ gI .ret; refine inb_ret ?_)))
  exact fin1 (.inl rfl) rfl rfl ⟨rfl, rfl⟩

theorem c_Und_slice (b : Nat) (w : World) : Calls Tryz.prog 217 #[.pointer (some ⟨b, 0, none⟩)] w (Ret fun r w' => r = .iface 56 (.pointer (some ⟨b, 0, none⟩)) ∧ w = w') := by
  refine W.enter (args := [.pointer (some ⟨b, 0, none⟩)]) Tryz.func217 rfl Tryz.ntmps217 rfl rfl ?_
  (repeat (first
      | (guard_target =~ gU _; first
          | (guard_target =~ gU []; first | refine WU.nilk ?_ | refine WU.nil ?_)
          | refine WU.yld rfl rfl rfl (by first | (guard_target =~ gY (.move _); exact ze rfl) | (guard_target =~ gY (.assign _); exact yf rfl) | (guard_target =~ gY (.load _ _); (first| exact za rfl rfl|exact zb rfl)) | (guard_target =~ gY (.fieldAddr _ _ _); exact yt rfl) | (guard_target =~ gY (.nilCheck _); (first| exact zq rfl|exact zr rfl)) | (guard_target =~ gY (.extract _ _); exact ys rfl rfl) | (guard_target =~ gY (.typeAssert _ _ _ true); (first| exact ye rfl rfl|exact yd rfl rfl (by first | rfl | assumption)|exact yc rfl rfl)) | (guard_target =~ gY (.typeAssert _ _ _ false); exact yb rfl rfl) | (guard_target =~ gY (.makeInterface _ _); exact zd rfl rfl) | (guard_target =~ gY (.pick _ _ _); (first| exact zv rfl rfl|exact zu rfl rfl|exact zt rfl rfl rfl)) | (guard_target =~ gY (.binOp .neq _ _ _ _); (first| exact zj rfl rfl|exact zn rfl rfl|exact zm rfl rfl|exact zg rfl rfl|exact zh rfl rfl|exact zl rfl rfl|exact zf rfl rfl|exact zp rfl rfl|exact zk rfl rfl|exact zo rfl rfl|exact zi (by first | decide | assumption) rfl rfl)) | (guard_target =~ gY (.binOp .eql _ _ _ _); (first| exact yl rfl rfl|exact yp rfl rfl|exact yo rfl rfl|exact yi rfl rfl|exact yj rfl rfl|exact yn rfl rfl|exact yh rfl rfl|exact yr rfl rfl|exact ym rfl rfl|exact yq rfl rfl|exact yk (by first | decide | assumption) rfl rfl)) | (guard_target =~ gY (.unOp .not _ _); exact zs rfl) | (guard_target =~ gY (.binOp .lss _ _ _ _); exact zc rfl rfl) | (guard_target =~ gY (.binOp .leq _ _ _ _); exact yz rfl rfl) | (guard_target =~ gY (.binOp .gtr _ _ _ _); exact yv rfl rfl) | (guard_target =~ gY (.binOp .geq _ _ _ _); exact yu rfl rfl) | (guard_target =~ gY (.binOp .add _ _ _ _); exact ya rfl rfl (by omega)) | (guard_target =~ gY (.binOp .sub _ _ _ _); exact zw rfl rfl (by omega)) | (guard_target =~ gY (.call _); (first| exact yx rfl|exact yy rfl)) | (guard_target =~ gY (.build _ _); exact yg rfl rfl) | (guard_target =~ gY (.indexAddr _ _ _); exact yw rfl rfl (by omega) (by omega))) ?_
          | refine WU.skip rfl rfl rfl ?_)
      | (guard_target =~ gW (.seq _ _); refine W.seq ?_)
      | (guard_target =~ gW (.region _ _ false); refine W.reg ?_)
      | (guard_target =~ gW (.cond _ _ _); first | refine W.cond_t rfl ?_ | refine W.cond_f rfl ?_)
      | (guard_target =~ gW (.block _ _); refine W.block ?_)
      | (guard_target =~ gW .skip; refine W.skip ?_)
      | (guard_target =~ gW (.exit _); refine W.exit ?_)
      | (guard_target =~ gW .ret; refine W.ret ?_)
      | (guard_target =~ gT .normal; refine thn_normal ?_)
      | (guard_target =~ gT (.exit _); refine thn_exit ?_)
      | (guard_target =~ gT .ret; refine thn_ret ?_)
      | (guard_target =~ gI .normal; refine inb_normal ?_)
      | (guard_target =~ gI (.exit _); first | refine inb_hit ?_ | refine inb_miss rfl ?_)
      | (guard_target =~ gI .ret; refine inb_ret ?_)))
  exact fin1 (.inl rfl) rfl rfl ⟨rfl, rfl⟩

theorem c_Und_array (b : Nat) (w : World) : Calls Tryz.prog 219 #[.pointer (some ⟨b, 0, none⟩)] w (Ret fun r w' => r = .iface 58 (.pointer (some ⟨b, 0, none⟩)) ∧ w = w') := by
  refine W.enter (args := [.pointer (some ⟨b, 0, none⟩)]) Tryz.func219 rfl Tryz.ntmps219 rfl rfl ?_
  (repeat (first
      | (guard_target =~ gU _; first
          | (guard_target =~ gU []; first | refine WU.nilk ?_ | refine WU.nil ?_)
          | refine WU.yld rfl rfl rfl (by first | (guard_target =~ gY (.move _); exact ze rfl) | (guard_target =~ gY (.assign _); exact yf rfl) | (guard_target =~ gY (.load _ _); (first| exact za rfl rfl|exact zb rfl)) | (guard_target =~ gY (.fieldAddr _ _ _); exact yt rfl) | (guard_target =~ gY (.nilCheck _); (first| exact zq rfl|exact zr rfl)) | (guard_target =~ gY (.extract _ _); exact ys rfl rfl) | (guard_target =~ gY (.typeAssert _ _ _ true); (first| exact ye rfl rfl|exact yd rfl rfl (by first | rfl | assumption)|exact yc rfl rfl)) | (guard_target =~ gY (.typeAssert _ _ _ false); exact yb rfl rfl) | (guard_target =~ gY (.makeInterface _ _); exact zd rfl rfl) | (guard_target =~ gY (.pick _ _ _); (first| exact zv rfl rfl|exact zu rfl rfl|exact zt rfl rfl rfl)) | (guard_target =~ gY (.binOp .neq _ _ _ _); (first| exact zj rfl rfl|exact zn rfl rfl|exact zm rfl rfl|exact zg rfl rfl|exact zh rfl rfl|exact zl rfl rfl|exact zf rfl rfl|exact zp rfl rfl|exact zk rfl rfl|exact zo rfl rfl|exact zi (by first | decide | assumption) rfl rfl)) | (guard_target =~ gY (.binOp .eql _ _ _ _); (first| exact yl rfl rfl|exact yp rfl rfl|exact yo rfl rfl|exact yi rfl rfl|exact yj rfl rfl|exact yn rfl rfl|exact yh rfl rfl|exact yr rfl rfl|exact ym rfl rfl|exact yq rfl rfl|exact yk (by first | decide | assumption) rfl rfl)) | (guard_target =~ gY (.unOp .not _ _); exact zs rfl) | (guard_target =~ gY (.binOp .lss _ _ _ _); exact zc rfl rfl) | (guard_target =~ gY (.binOp .leq _ _ _ _); exact yz rfl rfl) | (guard_target =~ gY (.binOp .gtr _ _ _ _); exact yv rfl rfl) | (guard_target =~ gY (.binOp .geq _ _ _ _); exact yu rfl rfl) | (guard_target =~ gY (.binOp .add _ _ _ _); exact ya rfl rfl (by omega)) | (guard_target =~ gY (.binOp .sub _ _ _ _); exact zw rfl rfl (by omega)) | (guard_target =~ gY (.call _); (first| exact yx rfl|exact yy rfl)) | (guard_target =~ gY (.build _ _); exact yg rfl rfl) | (guard_target =~ gY (.indexAddr _ _ _); exact yw rfl rfl (by omega) (by omega))) ?_
          | refine WU.skip rfl rfl rfl ?_)
      | (guard_target =~ gW (.seq _ _); refine W.seq ?_)
      | (guard_target =~ gW (.region _ _ false); refine W.reg ?_)
      | (guard_target =~ gW (.cond _ _ _); first | refine W.cond_t rfl ?_ | refine W.cond_f rfl ?_)
      | (guard_target =~ gW (.block _ _); refine W.block ?_)
      | (guard_target =~ gW .skip; refine W.skip ?_)
      | (guard_target =~ gW (.exit _); refine W.exit ?_)
      | (guard_target =~ gW .ret; refine W.ret ?_)
      | (guard_target =~ gT .normal; refine thn_normal ?_)
      | (guard_target =~ gT (.exit _); refine thn_exit ?_)
      | (guard_target =~ gT .ret; refine thn_ret ?_)
      | (guard_target =~ gI .normal; refine inb_normal ?_)
      | (guard_target =~ gI (.exit _); first | refine inb_hit ?_ | refine inb_miss rfl ?_)
      | (guard_target =~ gI .ret; refine inb_ret ?_)))
  exact fin1 (.inl rfl) rfl rfl ⟨rfl, rfl⟩

theorem c_Und_chan (b : Nat) (w : World) : Calls Tryz.prog 221 #[.pointer (some ⟨b, 0, none⟩)] w (Ret fun r w' => r = .iface 60 (.pointer (some ⟨b, 0, none⟩)) ∧ w = w') := by
  refine W.enter (args := [.pointer (some ⟨b, 0, none⟩)]) Tryz.func221 rfl Tryz.ntmps221 rfl rfl ?_
  (repeat (first
      | (guard_target =~ gU _; first
          | (guard_target =~ gU []; first | refine WU.nilk ?_ | refine WU.nil ?_)
          | refine WU.yld rfl rfl rfl (by first | (guard_target =~ gY (.move _); exact ze rfl) | (guard_target =~ gY (.assign _); exact yf rfl) | (guard_target =~ gY (.load _ _); (first| exact za rfl rfl|exact zb rfl)) | (guard_target =~ gY (.fieldAddr _ _ _); exact yt rfl) | (guard_target =~ gY (.nilCheck _); (first| exact zq rfl|exact zr rfl)) | (guard_target =~ gY (.extract _ _); exact ys rfl rfl) | (guard_target =~ gY (.typeAssert _ _ _ true); (first| exact ye rfl rfl|exact yd rfl rfl (by first | rfl | assumption)|exact yc rfl rfl)) | (guard_target =~ gY (.typeAssert _ _ _ false); exact yb rfl rfl) | (guard_target =~ gY (.makeInterface _ _); exact zd rfl rfl) | (guard_target =~ gY (.pick _ _ _); (first| exact zv rfl rfl|exact zu rfl rfl|exact zt rfl rfl rfl)) | (guard_target =~ gY (.binOp .neq _ _ _ _); (first| exact zj rfl rfl|exact zn rfl rfl|exact zm rfl rfl|exact zg rfl rfl|exact zh rfl rfl|exact zl rfl rfl|exact zf rfl rfl|exact zp rfl rfl|exact zk rfl rfl|exact zo rfl rfl|exact zi (by first | decide | assumption) rfl rfl)) | (guard_target =~ gY (.binOp .eql _ _ _ _); (first| exact yl rfl rfl|exact yp rfl rfl|exact yo rfl rfl|exact yi rfl rfl|exact yj rfl rfl|exact yn rfl rfl|exact yh rfl rfl|exact yr rfl rfl|exact ym rfl rfl|exact yq rfl rfl|exact yk (by first | decide | assumption) rfl rfl)) | (guard_target =~ gY (.unOp .not _ _); exact zs rfl) | (guard_target =~ gY (.binOp .lss _ _ _ _); exact zc rfl rfl) | (guard_target =~ gY (.binOp .leq _ _ _ _); exact yz rfl rfl) | (guard_target =~ gY (.binOp .gtr _ _ _ _); exact yv rfl rfl) | (guard_target =~ gY (.binOp .geq _ _ _ _); exact yu rfl rfl) | (guard_target =~ gY (.binOp .add _ _ _ _); exact ya rfl rfl (by omega)) | (guard_target =~ gY (.binOp .sub _ _ _ _); exact zw rfl rfl (by omega)) | (guard_target =~ gY (.call _); (first| exact yx rfl|exact yy rfl)) | (guard_target =~ gY (.build _ _); exact yg rfl rfl) | (guard_target =~ gY (.indexAddr _ _ _); exact yw rfl rfl (by omega) (by omega))) ?_
          | refine WU.skip rfl rfl rfl ?_)
      | (guard_target =~ gW (.seq _ _); refine W.seq ?_)
      | (guard_target =~ gW (.region _ _ false); refine W.reg ?_)
      | (guard_target =~ gW (.cond _ _ _); first | refine W.cond_t rfl ?_ | refine W.cond_f rfl ?_)
      | (guard_target =~ gW (.block _ _); refine W.block ?_)
      | (guard_target =~ gW .skip; refine W.skip ?_)
      | (guard_target =~ gW (.exit _); refine W.exit ?_)
      | (guard_target =~ gW .ret; refine W.ret ?_)
      | (guard_target =~ gT .normal; refine thn_normal ?_)
      | (guard_target =~ gT (.exit _); refine thn_exit ?_)
      | (guard_target =~ gT .ret; refine thn_ret ?_)
      | (guard_target =~ gI .normal; refine inb_normal ?_)
      | (guard_target =~ gI (.exit _); first | refine inb_hit ?_ | refine inb_miss rfl ?_)
      | (guard_target =~ gI .ret; refine inb_ret ?_)))
  exact fin1 (.inl rfl) rfl rfl ⟨rfl, rfl⟩

theorem c_Und_map (b : Nat) (w : World) : Calls Tryz.prog 223 #[.pointer (some ⟨b, 0, none⟩)] w (Ret fun r w' => r = .iface 64 (.pointer (some ⟨b, 0, none⟩)) ∧ w = w') := by
  refine W.enter (args := [.pointer (some ⟨b, 0, none⟩)]) Tryz.func223 rfl Tryz.ntmps223 rfl rfl ?_
  (repeat (first
      | (guard_target =~ gU _; first
          | (guard_target =~ gU []; first | refine WU.nilk ?_ | refine WU.nil ?_)
          | refine WU.yld rfl rfl rfl (by first | (guard_target =~ gY (.move _); exact ze rfl) | (guard_target =~ gY (.assign _); exact yf rfl) | (guard_target =~ gY (.load _ _); (first| exact za rfl rfl|exact zb rfl)) | (guard_target =~ gY (.fieldAddr _ _ _); exact yt rfl) | (guard_target =~ gY (.nilCheck _); (first| exact zq rfl|exact zr rfl)) | (guard_target =~ gY (.extract _ _); exact ys rfl rfl) | (guard_target =~ gY (.typeAssert _ _ _ true); (first| exact ye rfl rfl|exact yd rfl rfl (by first | rfl | assumption)|exact yc rfl rfl)) | (guard_target =~ gY (.typeAssert _ _ _ false); exact yb rfl rfl) | (guard_target =~ gY (.makeInterface _ _); exact zd rfl rfl) | (guard_target =~ gY (.pick _ _ _); (first| exact zv rfl rfl|exact zu rfl rfl|exact zt rfl rfl rfl)) | (guard_target =~ gY (.binOp .neq _ _ _ _); (first| exact zj rfl rfl|exact zn rfl rfl|exact zm rfl rfl|exact zg rfl rfl|exact zh rfl rfl|exact zl rfl rfl|exact zf rfl rfl|exact zp rfl rfl|exact zk rfl rfl|exact zo rfl rfl|exact zi (by first | decide | assumption) rfl rfl)) | (guard_target =~ gY (.binOp .eql _ _ _ _); (first| exact yl rfl rfl|exact yp rfl rfl|exact yo rfl rfl|exact yi rfl rfl|exact yj rfl rfl|exact yn rfl rfl|exact yh rfl rfl|exact yr rfl rfl|exact ym rfl rfl|exact yq rfl rfl|exact yk (by first | decide | assumption) rfl rfl)) | (guard_target =~ gY (.unOp .not _ _); exact zs rfl) | (guard_target =~ gY (.binOp .lss _ _ _ _); exact zc rfl rfl) | (guard_target =~ gY (.binOp .leq _ _ _ _); exact yz rfl rfl) | (guard_target =~ gY (.binOp .gtr _ _ _ _); exact yv rfl rfl) | (guard_target =~ gY (.binOp .geq _ _ _ _); exact yu rfl rfl) | (guard_target =~ gY (.binOp .add _ _ _ _); exact ya rfl rfl (by omega)) | (guard_target =~ gY (.binOp .sub _ _ _ _); exact zw rfl rfl (by omega)) | (guard_target =~ gY (.call _); (first| exact yx rfl|exact yy rfl)) | (guard_target =~ gY (.build _ _); exact yg rfl rfl) | (guard_target =~ gY (.indexAddr _ _ _); exact yw rfl rfl (by omega) (by omega))) ?_
          | refine WU.skip rfl rfl rfl ?_)
      | (guard_target =~ gW (.seq _ _); refine W.seq ?_)
      | (guard_target =~ gW (.region _ _ false); refine W.reg ?_)
      | (guard_target =~ gW (.cond _ _ _); first | refine W.cond_t rfl ?_ | refine W.cond_f rfl ?_)
      | (guard_target =~ gW (.block _ _); refine W.block ?_)
      | (guard_target =~ gW .skip; refine W.skip ?_)
      | (guard_target =~ gW (.exit _); refine W.exit ?_)
      | (guard_target =~ gW .ret; refine W.ret ?_)
      | (guard_target =~ gT .normal; refine thn_normal ?_)
      | (guard_target =~ gT (.exit _); refine thn_exit ?_)
      | (guard_target =~ gT .ret; refine thn_ret ?_)
      | (guard_target =~ gI .normal; refine inb_normal ?_)
      | (guard_target =~ gI (.exit _); first | refine inb_hit ?_ | refine inb_miss rfl ?_)
      | (guard_target =~ gI .ret; refine inb_ret ?_)))
  exact fin1 (.inl rfl) rfl rfl ⟨rfl, rfl⟩

set_option maxHeartbeats 1000000 in
theorem ct_mp_basic {w0 w : World} {b r cc : Nat} {es : Array MapEntry} {k i : Int} {nm} (hp : Pl w0 b) (h1 : Has w0 b (.cells #[.int .i64 k, .int .i64 i, .string nm] 81)) (hk : 1 ≤ k ∧ k ≤ 18) (hx : Ext w0 w) (hle : w0.heap.size ≤ r) (hm : Has w r (.map es cc)) (hn : NoKey w 50 ⟨b, 0, none⟩ es.toList) :
    Calls Tryz.prog 40 #[(.iface 50 (.pointer (some ⟨b, 0, none⟩))), .bool true, .map (some r)] w (Ret fun r w' => Rz r true ∧ Ext w0 w') := by
  refine W.enter (args := [(.iface 50 (.pointer (some ⟨b, 0, none⟩))), .bool true, .map (some r)]) Tryz.func40 rfl Tryz.ntmps40 rfl rfl ?_
  (repeat (first
      | (guard_target =~ gU _; first
          | (guard_target =~ gU []; first | refine WU.nilk ?_ | refine WU.nil ?_)
          | refine WU.yld rfl rfl rfl (by first | (guard_target =~ gY (.move _); exact ze rfl) | (guard_target =~ gY (.assign _); exact yf rfl) | (guard_target =~ gY (.load _ _); (first| exact za rfl rfl|exact zb rfl)) | (guard_target =~ gY (.fieldAddr _ _ _); exact yt rfl) | (guard_target =~ gY (.nilCheck _); (first| exact zq rfl|exact zr rfl)) | (guard_target =~ gY (.extract _ _); exact ys rfl rfl) | (guard_target =~ gY (.typeAssert _ _ _ true); (first| exact ye rfl rfl|exact yd rfl rfl (by first | rfl | assumption)|exact yc rfl rfl)) | (guard_target =~ gY (.typeAssert _ _ _ false); exact yb rfl rfl) | (guard_target =~ gY (.makeInterface _ _); exact zd rfl rfl) | (guard_target =~ gY (.pick _ _ _); (first| exact zv rfl rfl|exact zu rfl rfl|exact zt rfl rfl rfl)) | (guard_target =~ gY (.binOp .neq _ _ _ _); (first| exact zj rfl rfl|exact zn rfl rfl|exact zm rfl rfl|exact zg rfl rfl|exact zh rfl rfl|exact zl rfl rfl|exact zf rfl rfl|exact zp rfl rfl|exact zk rfl rfl|exact zo rfl rfl|exact zi (by first | decide | assumption) rfl rfl)) | (guard_target =~ gY (.binOp .eql _ _ _ _); (first| exact yl rfl rfl|exact yp rfl rfl|exact yo rfl rfl|exact yi rfl rfl|exact yj rfl rfl|exact yn rfl rfl|exact yh rfl rfl|exact yr rfl rfl|exact ym rfl rfl|exact yq rfl rfl|exact yk (by first | decide | assumption) rfl rfl)) | (guard_target =~ gY (.unOp .not _ _); exact zs rfl) | (guard_target =~ gY (.binOp .lss _ _ _ _); exact zc rfl rfl) | (guard_target =~ gY (.binOp .leq _ _ _ _); exact yz rfl rfl) | (guard_target =~ gY (.binOp .gtr _ _ _ _); exact yv rfl rfl) | (guard_target =~ gY (.binOp .geq _ _ _ _); exact yu rfl rfl) | (guard_target =~ gY (.binOp .add _ _ _ _); exact ya rfl rfl (by omega)) | (guard_target =~ gY (.binOp .sub _ _ _ _); exact zw rfl rfl (by omega)) | (guard_target =~ gY (.call _); (first| exact yx rfl|exact yy rfl)) | (guard_target =~ gY (.build _ _); exact yg rfl rfl) | (guard_target =~ gY (.indexAddr _ _ _); exact yw rfl rfl (by omega) (by omega))) ?_
          | refine WU.skip rfl rfl rfl ?_)
      | (guard_target =~ gW (.seq _ _); refine W.seq ?_)
      | (guard_target =~ gW (.region _ _ false); refine W.reg ?_)
      | (guard_target =~ gW (.cond _ _ _); first | refine W.cond_t rfl ?_ | refine W.cond_f rfl ?_)
      | (guard_target =~ gW (.block _ _); refine W.block ?_)
      | (guard_target =~ gW .skip; refine W.skip ?_)
      | (guard_target =~ gW (.exit _); refine W.exit ?_)
      | (guard_target =~ gW .ret; refine W.ret ?_)
      | (guard_target =~ gT .normal; refine thn_normal ?_)
      | (guard_target =~ gT (.exit _); refine thn_exit ?_)
      | (guard_target =~ gT .ret; refine thn_ret ?_)
      | (guard_target =~ gI .normal; refine inb_normal ?_)
      | (guard_target =~ gI (.exit _); first | refine inb_hit ?_ | refine inb_miss rfl ?_)
      | (guard_target =~ gI .ret; refine inb_ret ?_)))
  refine WU.stp rfl rfl rfl (stp_lookup_no rfl rfl hm (hp.ext' hx) hn) ?_
  rintro _ _ ⟨rfl, rfl⟩
  (repeat (first
      | (guard_target =~ gU _; first
          | (guard_target =~ gU []; first | refine WU.nilk ?_ | refine WU.nil ?_)
          | refine WU.yld rfl rfl rfl (by first | (guard_target =~ gY (.move _); exact ze rfl) | (guard_target =~ gY (.assign _); exact yf rfl) | (guard_target =~ gY (.load _ _); (first| exact za rfl rfl|exact zb rfl)) | (guard_target =~ gY (.fieldAddr _ _ _); exact yt rfl) | (guard_target =~ gY (.nilCheck _); (first| exact zq rfl|exact zr rfl)) | (guard_target =~ gY (.extract _ _); exact ys rfl rfl) | (guard_target =~ gY (.typeAssert _ _ _ true); (first| exact ye rfl rfl|exact yd rfl rfl (by first | rfl | assumption)|exact yc rfl rfl)) | (guard_target =~ gY (.typeAssert _ _ _ false); exact yb rfl rfl) | (guard_target =~ gY (.makeInterface _ _); exact zd rfl rfl) | (guard_target =~ gY (.pick _ _ _); (first| exact zv rfl rfl|exact zu rfl rfl|exact zt rfl rfl rfl)) | (guard_target =~ gY (.binOp .neq _ _ _ _); (first| exact zj rfl rfl|exact zn rfl rfl|exact zm rfl rfl|exact zg rfl rfl|exact zh rfl rfl|exact zl rfl rfl|exact zf rfl rfl|exact zp rfl rfl|exact zk rfl rfl|exact zo rfl rfl|exact zi (by first | decide | assumption) rfl rfl)) | (guard_target =~ gY (.binOp .eql _ _ _ _); (first| exact yl rfl rfl|exact yp rfl rfl|exact yo rfl rfl|exact yi rfl rfl|exact yj rfl rfl|exact yn rfl rfl|exact yh rfl rfl|exact yr rfl rfl|exact ym rfl rfl|exact yq rfl rfl|exact yk (by first | decide | assumption) rfl rfl)) | (guard_target =~ gY (.unOp .not _ _); exact zs rfl) | (guard_target =~ gY (.binOp .lss _ _ _ _); exact zc rfl rfl) | (guard_target =~ gY (.binOp .leq _ _ _ _); exact yz rfl rfl) | (guard_target =~ gY (.binOp .gtr _ _ _ _); exact yv rfl rfl) | (guard_target =~ gY (.binOp .geq _ _ _ _); exact yu rfl rfl) | (guard_target =~ gY (.binOp .add _ _ _ _); exact ya rfl rfl (by omega)) | (guard_target =~ gY (.binOp .sub _ _ _ _); exact zw rfl rfl (by omega)) | (guard_target =~ gY (.call _); (first| exact yx rfl|exact yy rfl)) | (guard_target =~ gY (.build _ _); exact yg rfl rfl) | (guard_target =~ gY (.indexAddr _ _ _); exact yw rfl rfl (by omega) (by omega))) ?_
          | refine WU.skip rfl rfl rfl ?_)
      | (guard_target =~ gW (.seq _ _); refine W.seq ?_)
      | (guard_target =~ gW (.region _ _ false); refine W.reg ?_)
      | (guard_target =~ gW (.cond _ _ _); first | refine W.cond_t rfl ?_ | refine W.cond_f rfl ?_)
      | (guard_target =~ gW (.block _ _); refine W.block ?_)
      | (guard_target =~ gW .skip; refine W.skip ?_)
      | (guard_target =~ gW (.exit _); refine W.exit ?_)
      | (guard_target =~ gW .ret; refine W.ret ?_)
      | (guard_target =~ gT .normal; refine thn_normal ?_)
      | (guard_target =~ gT (.exit _); refine thn_exit ?_)
      | (guard_target =~ gT .ret; refine thn_ret ?_)
      | (guard_target =~ gI .normal; refine inb_normal ?_)
      | (guard_target =~ gI (.exit _); first | refine inb_hit ?_ | refine inb_miss rfl ?_)
      | (guard_target =~ gI .ret; refine inb_ret ?_)))
  refine WU.stp0 rfl rfl (stp_mapNew rfl rfl rfl hm (hp.ext' hx) hn) ?_
  rintro _ w1 u1
  have x1 : Ext w0 w1 := u1.ext hx hle
  (repeat (first
      | (guard_target =~ gU _; first
          | (guard_target =~ gU []; first | refine WU.nilk ?_ | refine WU.nil ?_)
          | refine WU.yld rfl rfl rfl (by first | (guard_target =~ gY (.move _); exact ze rfl) | (guard_target =~ gY (.assign _); exact yf rfl) | (guard_target =~ gY (.load _ _); (first| exact za rfl rfl|exact zb rfl)) | (guard_target =~ gY (.fieldAddr _ _ _); exact yt rfl) | (guard_target =~ gY (.nilCheck _); (first| exact zq rfl|exact zr rfl)) | (guard_target =~ gY (.extract _ _); exact ys rfl rfl) | (guard_target =~ gY (.typeAssert _ _ _ true); (first| exact ye rfl rfl|exact yd rfl rfl (by first | rfl | assumption)|exact yc rfl rfl)) | (guard_target =~ gY (.typeAssert _ _ _ false); exact yb rfl rfl) | (guard_target =~ gY (.makeInterface _ _); exact zd rfl rfl) | (guard_target =~ gY (.pick _ _ _); (first| exact zv rfl rfl|exact zu rfl rfl|exact zt rfl rfl rfl)) | (guard_target =~ gY (.binOp .neq _ _ _ _); (first| exact zj rfl rfl|exact zn rfl rfl|exact zm rfl rfl|exact zg rfl rfl|exact zh rfl rfl|exact zl rfl rfl|exact zf rfl rfl|exact zp rfl rfl|exact zk rfl rfl|exact zo rfl rfl|exact zi (by first | decide | assumption) rfl rfl)) | (guard_target =~ gY (.binOp .eql _ _ _ _); (first| exact yl rfl rfl|exact yp rfl rfl|exact yo rfl rfl|exact yi rfl rfl|exact yj rfl rfl|exact yn rfl rfl|exact yh rfl rfl|exact yr rfl rfl|exact ym rfl rfl|exact yq rfl rfl|exact yk (by first | decide | assumption) rfl rfl)) | (guard_target =~ gY (.unOp .not _ _); exact zs rfl) | (guard_target =~ gY (.binOp .lss _ _ _ _); exact zc rfl rfl) | (guard_target =~ gY (.binOp .leq _ _ _ _); exact yz rfl rfl) | (guard_target =~ gY (.binOp .gtr _ _ _ _); exact yv rfl rfl) | (guard_target =~ gY (.binOp .geq _ _ _ _); exact yu rfl rfl) | (guard_target =~ gY (.binOp .add _ _ _ _); exact ya rfl rfl (by omega)) | (guard_target =~ gY (.binOp .sub _ _ _ _); exact zw rfl rfl (by omega)) | (guard_target =~ gY (.call _); (first| exact yx rfl|exact yy rfl)) | (guard_target =~ gY (.build _ _); exact yg rfl rfl) | (guard_target =~ gY (.indexAddr _ _ _); exact yw rfl rfl (by omega) (by omega))) ?_
          | refine WU.skip rfl rfl rfl ?_)
      | (guard_target =~ gW (.seq _ _); refine W.seq ?_)
      | (guard_target =~ gW (.region _ _ false); refine W.reg ?_)
      | (guard_target =~ gW (.cond _ _ _); first | refine W.cond_t rfl ?_ | refine W.cond_f rfl ?_)
      | (guard_target =~ gW (.block _ _); refine W.block ?_)
      | (guard_target =~ gW .skip; refine W.skip ?_)
      | (guard_target =~ gW (.exit _); refine W.exit ?_)
      | (guard_target =~ gW .ret; refine W.ret ?_)
      | (guard_target =~ gT .normal; refine thn_normal ?_)
      | (guard_target =~ gT (.exit _); refine thn_exit ?_)
      | (guard_target =~ gT .ret; refine thn_ret ?_)
      | (guard_target =~ gI .normal; refine inb_normal ?_)
      | (guard_target =~ gI (.exit _); first | refine inb_hit ?_ | refine inb_miss rfl ?_)
      | (guard_target =~ gI .ret; refine inb_ret ?_)))
  refine WU.stp rfl rfl rfl (stp_invoke rfl rfl (c_Und_basic b w1)) ?_
  rintro _ _ ⟨rfl, rfl⟩
  have i1 := h1.ext' x1
  (repeat (first
      | (guard_target =~ gU _; first
          | (guard_target =~ gU []; first | refine WU.nilk ?_ | refine WU.nil ?_)
          | refine WU.yld rfl rfl rfl (by first | (guard_target =~ gY (.move _); exact ze rfl) | (guard_target =~ gY (.assign _); exact yf rfl) | (guard_target =~ gY (.load _ _); (first| exact za rfl rfl|exact zb rfl)) | (guard_target =~ gY (.fieldAddr _ _ _); exact yt rfl) | (guard_target =~ gY (.nilCheck _); (first| exact zq rfl|exact zr rfl)) | (guard_target =~ gY (.extract _ _); exact ys rfl rfl) | (guard_target =~ gY (.typeAssert _ _ _ true); (first| exact ye rfl rfl|exact yd rfl rfl (by first | rfl | assumption)|exact yc rfl rfl)) | (guard_target =~ gY (.typeAssert _ _ _ false); exact yb rfl rfl) | (guard_target =~ gY (.makeInterface _ _); exact zd rfl rfl) | (guard_target =~ gY (.pick _ _ _); (first| exact zv rfl rfl|exact zu rfl rfl|exact zt rfl rfl rfl)) | (guard_target =~ gY (.binOp .neq _ _ _ _); (first| exact zj rfl rfl|exact zn rfl rfl|exact zm rfl rfl|exact zg rfl rfl|exact zh rfl rfl|exact zl rfl rfl|exact zf rfl rfl|exact zp rfl rfl|exact zk rfl rfl|exact zo rfl rfl|exact zi (by first | decide | assumption) rfl rfl)) | (guard_target =~ gY (.binOp .eql _ _ _ _); (first| exact yl rfl rfl|exact yp rfl rfl|exact yo rfl rfl|exact yi rfl rfl|exact yj rfl rfl|exact yn rfl rfl|exact yh rfl rfl|exact yr rfl rfl|exact ym rfl rfl|exact yq rfl rfl|exact yk (by first | decide | assumption) rfl rfl)) | (guard_target =~ gY (.unOp .not _ _); exact zs rfl) | (guard_target =~ gY (.binOp .lss _ _ _ _); exact zc rfl rfl) | (guard_target =~ gY (.binOp .leq _ _ _ _); exact yz rfl rfl) | (guard_target =~ gY (.binOp .gtr _ _ _ _); exact yv rfl rfl) | (guard_target =~ gY (.binOp .geq _ _ _ _); exact yu rfl rfl) | (guard_target =~ gY (.binOp .add _ _ _ _); exact ya rfl rfl (by omega)) | (guard_target =~ gY (.binOp .sub _ _ _ _); exact zw rfl rfl (by omega)) | (guard_target =~ gY (.call _); (first| exact yx rfl|exact yy rfl)) | (guard_target =~ gY (.build _ _); exact yg rfl rfl) | (guard_target =~ gY (.indexAddr _ _ _); exact yw rfl rfl (by omega) (by omega))) ?_
          | refine WU.skip rfl rfl rfl ?_)
      | (guard_target =~ gW (.seq _ _); refine W.seq ?_)
      | (guard_target =~ gW (.region _ _ false); refine W.reg ?_)
      | (guard_target =~ gW (.cond _ _ _); first | refine W.cond_t rfl ?_ | refine W.cond_f rfl ?_)
      | (guard_target =~ gW (.block _ _); refine W.block ?_)
      | (guard_target =~ gW .skip; refine W.skip ?_)
      | (guard_target =~ gW (.exit _); refine W.exit ?_)
      | (guard_target =~ gW .ret; refine W.ret ?_)
      | (guard_target =~ gT .normal; refine thn_normal ?_)
      | (guard_target =~ gT (.exit _); refine thn_exit ?_)
      | (guard_target =~ gT .ret; refine thn_ret ?_)
      | (guard_target =~ gI .normal; refine inb_normal ?_)
      | (guard_target =~ gI (.exit _); first | refine inb_hit ?_ | refine inb_miss rfl ?_)
      | (guard_target =~ gI .ret; refine inb_ret ?_)))
  rw [show (k == 25) = false by simp; omega]
  (repeat (first
      | (guard_target =~ gU _; first
          | (guard_target =~ gU []; first | refine WU.nilk ?_ | refine WU.nil ?_)
          | refine WU.yld rfl rfl rfl (by first | (guard_target =~ gY (.move _); exact ze rfl) | (guard_target =~ gY (.assign _); exact yf rfl) | (guard_target =~ gY (.load _ _); (first| exact za rfl rfl|exact zb rfl)) | (guard_target =~ gY (.fieldAddr _ _ _); exact yt rfl) | (guard_target =~ gY (.nilCheck _); (first| exact zq rfl|exact zr rfl)) | (guard_target =~ gY (.extract _ _); exact ys rfl rfl) | (guard_target =~ gY (.typeAssert _ _ _ true); (first| exact ye rfl rfl|exact yd rfl rfl (by first | rfl | assumption)|exact yc rfl rfl)) | (guard_target =~ gY (.typeAssert _ _ _ false); exact yb rfl rfl) | (guard_target =~ gY (.makeInterface _ _); exact zd rfl rfl) | (guard_target =~ gY (.pick _ _ _); (first| exact zv rfl rfl|exact zu rfl rfl|exact zt rfl rfl rfl)) | (guard_target =~ gY (.binOp .neq _ _ _ _); (first| exact zj rfl rfl|exact zn rfl rfl|exact zm rfl rfl|exact zg rfl rfl|exact zh rfl rfl|exact zl rfl rfl|exact zf rfl rfl|exact zp rfl rfl|exact zk rfl rfl|exact zo rfl rfl|exact zi (by first | decide | assumption) rfl rfl)) | (guard_target =~ gY (.binOp .eql _ _ _ _); (first| exact yl rfl rfl|exact yp rfl rfl|exact yo rfl rfl|exact yi rfl rfl|exact yj rfl rfl|exact yn rfl rfl|exact yh rfl rfl|exact yr rfl rfl|exact ym rfl rfl|exact yq rfl rfl|exact yk (by first | decide | assumption) rfl rfl)) | (guard_target =~ gY (.unOp .not _ _); exact zs rfl) | (guard_target =~ gY (.binOp .lss _ _ _ _); exact zc rfl rfl) | (guard_target =~ gY (.binOp .leq _ _ _ _); exact yz rfl rfl) | (guard_target =~ gY (.binOp .gtr _ _ _ _); exact yv rfl rfl) | (guard_target =~ gY (.binOp .geq _ _ _ _); exact yu rfl rfl) | (guard_target =~ gY (.binOp .add _ _ _ _); exact ya rfl rfl (by omega)) | (guard_target =~ gY (.binOp .sub _ _ _ _); exact zw rfl rfl (by omega)) | (guard_target =~ gY (.call _); (first| exact yx rfl|exact yy rfl)) | (guard_target =~ gY (.build _ _); exact yg rfl rfl) | (guard_target =~ gY (.indexAddr _ _ _); exact yw rfl rfl (by omega) (by omega))) ?_
          | refine WU.skip rfl rfl rfl ?_)
      | (guard_target =~ gW (.seq _ _); refine W.seq ?_)
      | (guard_target =~ gW (.region _ _ false); refine W.reg ?_)
      | (guard_target =~ gW (.cond _ _ _); first | refine W.cond_t rfl ?_ | refine W.cond_f rfl ?_)
      | (guard_target =~ gW (.block _ _); refine W.block ?_)
      | (guard_target =~ gW .skip; refine W.skip ?_)
      | (guard_target =~ gW (.exit _); refine W.exit ?_)
      | (guard_target =~ gW .ret; refine W.ret ?_)
      | (guard_target =~ gT .normal; refine thn_normal ?_)
      | (guard_target =~ gT (.exit _); refine thn_exit ?_)
      | (guard_target =~ gT .ret; refine thn_ret ?_)
      | (guard_target =~ gI .normal; refine inb_normal ?_)
      | (guard_target =~ gI (.exit _); first | refine inb_hit ?_ | refine inb_miss rfl ?_)
      | (guard_target =~ gI .ret; refine inb_ret ?_)))
  exact fin1 (.inl rfl) rfl rfl ⟨.inl ⟨rfl, rfl⟩, x1⟩

set_option maxHeartbeats 1000000 in
theorem ct_mp_ptr {w0 w : World} {b r cc : Nat} {es : Array MapEntry}  (hp : Pl w0 b)  (hx : Ext w0 w) (hle : w0.heap.size ≤ r) (hm : Has w r (.map es cc)) (hn : NoKey w 54 ⟨b, 0, none⟩ es.toList) :
    Calls Tryz.prog 40 #[(.iface 54 (.pointer (some ⟨b, 0, none⟩))), .bool true, .map (some r)] w (Ret fun r w' => Rz r true ∧ Ext w0 w') := by
  refine W.enter (args := [(.iface 54 (.pointer (some ⟨b, 0, none⟩))), .bool true, .map (some r)]) Tryz.func40 rfl Tryz.ntmps40 rfl rfl ?_
  (repeat (first
      | (guard_target =~ gU _; first
          | (guard_target =~ gU []; first | refine WU.nilk ?_ | refine WU.nil ?_)
          | refine WU.yld rfl rfl rfl (by first | (guard_target =~ gY (.move _); exact ze rfl) | (guard_target =~ gY (.assign _); exact yf rfl) | (guard_target =~ gY (.load _ _); (first| exact za rfl rfl|exact zb rfl)) | (guard_target =~ gY (.fieldAddr _ _ _); exact yt rfl) | (guard_target =~ gY (.nilCheck _); (first| exact zq rfl|exact zr rfl)) | (guard_target =~ gY (.extract _ _); exact ys rfl rfl) | (guard_target =~ gY (.typeAssert _ _ _ true); (first| exact ye rfl rfl|exact yd rfl rfl (by first | rfl | assumption)|exact yc rfl rfl)) | (guard_target =~ gY (.typeAssert _ _ _ false); exact yb rfl rfl) | (guard_target =~ gY (.makeInterface _ _); exact zd rfl rfl) | (guard_target =~ gY (.pick _ _ _); (first| exact zv rfl rfl|exact zu rfl rfl|exact zt rfl rfl rfl)) | (guard_target =~ gY (.binOp .neq _ _ _ _); (first| exact zj rfl rfl|exact zn rfl rfl|exact zm rfl rfl|exact zg rfl rfl|exact zh rfl rfl|exact zl rfl rfl|exact zf rfl rfl|exact zp rfl rfl|exact zk rfl rfl|exact zo rfl rfl|exact zi (by first | decide | assumption) rfl rfl)) | (guard_target =~ gY (.binOp .eql _ _ _ _); (first| exact yl rfl rfl|exact yp rfl rfl|exact yo rfl rfl|exact yi rfl rfl|exact yj rfl rfl|exact yn rfl rfl|exact yh rfl rfl|exact yr rfl rfl|exact ym rfl rfl|exact yq rfl rfl|exact yk (by first | decide | assumption) rfl rfl)) | (guard_target =~ gY (.unOp .not _ _); exact zs rfl) | (guard_target =~ gY (.binOp .lss _ _ _ _); exact zc rfl rfl) | (guard_target =~ gY (.binOp .leq _ _ _ _); exact yz rfl rfl) | (guard_target =~ gY (.binOp .gtr _ _ _ _); exact yv rfl rfl) | (guard_target =~ gY (.binOp .geq _ _ _ _); exact yu rfl rfl) | (guard_target =~ gY (.binOp .add _ _ _ _); exact ya rfl rfl (by omega)) | (guard_target =~ gY (.binOp .sub _ _ _ _); exact zw rfl rfl (by omega)) | (guard_target =~ gY (.call _); (first| exact yx rfl|exact yy rfl)) | (guard_target =~ gY (.build _ _); exact yg rfl rfl) | (guard_target =~ gY (.indexAddr _ _ _); exact yw rfl rfl (by omega) (by omega))) ?_
          | refine WU.skip rfl rfl rfl ?_)
      | (guard_target =~ gW (.seq _ _); refine W.seq ?_)
      | (guard_target =~ gW (.region _ _ false); refine W.reg ?_)
      | (guard_target =~ gW (.cond _ _ _); first | refine W.cond_t rfl ?_ | refine W.cond_f rfl ?_)
      | (guard_target =~ gW (.block _ _); refine W.block ?_)
      | (guard_target =~ gW .skip; refine W.skip ?_)
      | (guard_target =~ gW (.exit _); refine W.exit ?_)
      | (guard_target =~ gW .ret; refine W.ret ?_)
      | (guard_target =~ gT .normal; refine thn_normal ?_)
      | (guard_target =~ gT (.exit _); refine thn_exit ?_)
      | (guard_target =~ gT .ret; refine thn_ret ?_)
      | (guard_target =~ gI .normal; refine inb_normal ?_)
      | (guard_target =~ gI (.exit _); first | refine inb_hit ?_ | refine inb_miss rfl ?_)
      | (guard_target =~ gI .ret; refine inb_ret ?_)))
  refine WU.stp rfl rfl rfl (stp_lookup_no rfl rfl hm (hp.ext' hx) hn) ?_
  rintro _ _ ⟨rfl, rfl⟩
  (repeat (first
      | (guard_target =~ gU _; first
          | (guard_target =~ gU []; first | refine WU.nilk ?_ | refine WU.nil ?_)
          | refine WU.yld rfl rfl rfl (by first | (guard_target =~ gY (.move _); exact ze rfl) | (guard_target =~ gY (.assign _); exact yf rfl) | (guard_target =~ gY (.load _ _); (first| exact za rfl rfl|exact zb rfl)) | (guard_target =~ gY (.fieldAddr _ _ _); exact yt rfl) | (guard_target =~ gY (.nilCheck _); (first| exact zq rfl|exact zr rfl)) | (guard_target =~ gY (.extract _ _); exact ys rfl rfl) | (guard_target =~ gY (.typeAssert _ _ _ true); (first| exact ye rfl rfl|exact yd rfl rfl (by first | rfl | assumption)|exact yc rfl rfl)) | (guard_target =~ gY (.typeAssert _ _ _ false); exact yb rfl rfl) | (guard_target =~ gY (.makeInterface _ _); exact zd rfl rfl) | (guard_target =~ gY (.pick _ _ _); (first| exact zv rfl rfl|exact zu rfl rfl|exact zt rfl rfl rfl)) | (guard_target =~ gY (.binOp .neq _ _ _ _); (first| exact zj rfl rfl|exact zn rfl rfl|exact zm rfl rfl|exact zg rfl rfl|exact zh rfl rfl|exact zl rfl rfl|exact zf rfl rfl|exact zp rfl rfl|exact zk rfl rfl|exact zo rfl rfl|exact zi (by first | decide | assumption) rfl rfl)) | (guard_target =~ gY (.binOp .eql _ _ _ _); (first| exact yl rfl rfl|exact yp rfl rfl|exact yo rfl rfl|exact yi rfl rfl|exact yj rfl rfl|exact yn rfl rfl|exact yh rfl rfl|exact yr rfl rfl|exact ym rfl rfl|exact yq rfl rfl|exact yk (by first | decide | assumption) rfl rfl)) | (guard_target =~ gY (.unOp .not _ _); exact zs rfl) | (guard_target =~ gY (.binOp .lss _ _ _ _); exact zc rfl rfl) | (guard_target =~ gY (.binOp .leq _ _ _ _); exact yz rfl rfl) | (guard_target =~ gY (.binOp .gtr _ _ _ _); exact yv rfl rfl) | (guard_target =~ gY (.binOp .geq _ _ _ _); exact yu rfl rfl) | (guard_target =~ gY (.binOp .add _ _ _ _); exact ya rfl rfl (by omega)) | (guard_target =~ gY (.binOp .sub _ _ _ _); exact zw rfl rfl (by omega)) | (guard_target =~ gY (.call _); (first| exact yx rfl|exact yy rfl)) | (guard_target =~ gY (.build _ _); exact yg rfl rfl) | (guard_target =~ gY (.indexAddr _ _ _); exact yw rfl rfl (by omega) (by omega))) ?_
          | refine WU.skip rfl rfl rfl ?_)
      | (guard_target =~ gW (.seq _ _); refine W.seq ?_)
      | (guard_target =~ gW (.region _ _ false); refine W.reg ?_)
      | (guard_target =~ gW (.cond _ _ _); first | refine W.cond_t rfl ?_ | refine W.cond_f rfl ?_)
      | (guard_target =~ gW (.block _ _); refine W.block ?_)
      | (guard_target =~ gW .skip; refine W.skip ?_)
      | (guard_target =~ gW (.exit _); refine W.exit ?_)
      | (guard_target =~ gW .ret; refine W.ret ?_)
      | (guard_target =~ gT .normal; refine thn_normal ?_)
      | (guard_target =~ gT (.exit _); refine thn_exit ?_)
      | (guard_target =~ gT .ret; refine thn_ret ?_)
      | (guard_target =~ gI .normal; refine inb_normal ?_)
      | (guard_target =~ gI (.exit _); first | refine inb_hit ?_ | refine inb_miss rfl ?_)
      | (guard_target =~ gI .ret; refine inb_ret ?_)))
  refine WU.stp0 rfl rfl (stp_mapNew rfl rfl rfl hm (hp.ext' hx) hn) ?_
  rintro _ w1 u1
  have x1 : Ext w0 w1 := u1.ext hx hle
  (repeat (first
      | (guard_target =~ gU _; first
          | (guard_target =~ gU []; first | refine WU.nilk ?_ | refine WU.nil ?_)
          | refine WU.yld rfl rfl rfl (by first | (guard_target =~ gY (.move _); exact ze rfl) | (guard_target =~ gY (.assign _); exact yf rfl) | (guard_target =~ gY (.load _ _); (first| exact za rfl rfl|exact zb rfl)) | (guard_target =~ gY (.fieldAddr _ _ _); exact yt rfl) | (guard_target =~ gY (.nilCheck _); (first| exact zq rfl|exact zr rfl)) | (guard_target =~ gY (.extract _ _); exact ys rfl rfl) | (guard_target =~ gY (.typeAssert _ _ _ true); (first| exact ye rfl rfl|exact yd rfl rfl (by first | rfl | assumption)|exact yc rfl rfl)) | (guard_target =~ gY (.typeAssert _ _ _ false); exact yb rfl rfl) | (guard_target =~ gY (.makeInterface _ _); exact zd rfl rfl) | (guard_target =~ gY (.pick _ _ _); (first| exact zv rfl rfl|exact zu rfl rfl|exact zt rfl rfl rfl)) | (guard_target =~ gY (.binOp .neq _ _ _ _); (first| exact zj rfl rfl|exact zn rfl rfl|exact zm rfl rfl|exact zg rfl rfl|exact zh rfl rfl|exact zl rfl rfl|exact zf rfl rfl|exact zp rfl rfl|exact zk rfl rfl|exact zo rfl rfl|exact zi (by first | decide | assumption) rfl rfl)) | (guard_target =~ gY (.binOp .eql _ _ _ _); (first| exact yl rfl rfl|exact yp rfl rfl|exact yo rfl rfl|exact yi rfl rfl|exact yj rfl rfl|exact yn rfl rfl|exact yh rfl rfl|exact yr rfl rfl|exact ym rfl rfl|exact yq rfl rfl|exact yk (by first | decide | assumption) rfl rfl)) | (guard_target =~ gY (.unOp .not _ _); exact zs rfl) | (guard_target =~ gY (.binOp .lss _ _ _ _); exact zc rfl rfl) | (guard_target =~ gY (.binOp .leq _ _ _ _); exact yz rfl rfl) | (guard_target =~ gY (.binOp .gtr _ _ _ _); exact yv rfl rfl) | (guard_target =~ gY (.binOp .geq _ _ _ _); exact yu rfl rfl) | (guard_target =~ gY (.binOp .add _ _ _ _); exact ya rfl rfl (by omega)) | (guard_target =~ gY (.binOp .sub _ _ _ _); exact zw rfl rfl (by omega)) | (guard_target =~ gY (.call _); (first| exact yx rfl|exact yy rfl)) | (guard_target =~ gY (.build _ _); exact yg rfl rfl) | (guard_target =~ gY (.indexAddr _ _ _); exact yw rfl rfl (by omega) (by omega))) ?_
          | refine WU.skip rfl rfl rfl ?_)
      | (guard_target =~ gW (.seq _ _); refine W.seq ?_)
      | (guard_target =~ gW (.region _ _ false); refine W.reg ?_)
      | (guard_target =~ gW (.cond _ _ _); first | refine W.cond_t rfl ?_ | refine W.cond_f rfl ?_)
      | (guard_target =~ gW (.block _ _); refine W.block ?_)
      | (guard_target =~ gW .skip; refine W.skip ?_)
      | (guard_target =~ gW (.exit _); refine W.exit ?_)
      | (guard_target =~ gW .ret; refine W.ret ?_)
      | (guard_target =~ gT .normal; refine thn_normal ?_)
      | (guard_target =~ gT (.exit _); refine thn_exit ?_)
      | (guard_target =~ gT .ret; refine thn_ret ?_)
      | (guard_target =~ gI .normal; refine inb_normal ?_)
      | (guard_target =~ gI (.exit _); first | refine inb_hit ?_ | refine inb_miss rfl ?_)
      | (guard_target =~ gI .ret; refine inb_ret ?_)))
  refine WU.stp rfl rfl rfl (stp_invoke rfl rfl (c_Und_ptr b w1)) ?_
  rintro _ _ ⟨rfl, rfl⟩
  (repeat (first
      | (guard_target =~ gU _; first
          | (guard_target =~ gU []; first | refine WU.nilk ?_ | refine WU.nil ?_)
          | refine WU.yld rfl rfl rfl (by first | (guard_target =~ gY (.move _); exact ze rfl) | (guard_target =~ gY (.assign _); exact yf rfl) | (guard_target =~ gY (.load _ _); (first| exact za rfl rfl|exact zb rfl)) | (guard_target =~ gY (.fieldAddr _ _ _); exact yt rfl) | (guard_target =~ gY (.nilCheck _); (first| exact zq rfl|exact zr rfl)) | (guard_target =~ gY (.extract _ _); exact ys rfl rfl) | (guard_target =~ gY (.typeAssert _ _ _ true); (first| exact ye rfl rfl|exact yd rfl rfl (by first | rfl | assumption)|exact yc rfl rfl)) | (guard_target =~ gY (.typeAssert _ _ _ false); exact yb rfl rfl) | (guard_target =~ gY (.makeInterface _ _); exact zd rfl rfl) | (guard_target =~ gY (.pick _ _ _); (first| exact zv rfl rfl|exact zu rfl rfl|exact zt rfl rfl rfl)) | (guard_target =~ gY (.binOp .neq _ _ _ _); (first| exact zj rfl rfl|exact zn rfl rfl|exact zm rfl rfl|exact zg rfl rfl|exact zh rfl rfl|exact zl rfl rfl|exact zf rfl rfl|exact zp rfl rfl|exact zk rfl rfl|exact zo rfl rfl|exact zi (by first | decide | assumption) rfl rfl)) | (guard_target =~ gY (.binOp .eql _ _ _ _); (first| exact yl rfl rfl|exact yp rfl rfl|exact yo rfl rfl|exact yi rfl rfl|exact yj rfl rfl|exact yn rfl rfl|exact yh rfl rfl|exact yr rfl rfl|exact ym rfl rfl|exact yq rfl rfl|exact yk (by first | decide | assumption) rfl rfl)) | (guard_target =~ gY (.unOp .not _ _); exact zs rfl) | (guard_target =~ gY (.binOp .lss _ _ _ _); exact zc rfl rfl) | (guard_target =~ gY (.binOp .leq _ _ _ _); exact yz rfl rfl) | (guard_target =~ gY (.binOp .gtr _ _ _ _); exact yv rfl rfl) | (guard_target =~ gY (.binOp .geq _ _ _ _); exact yu rfl rfl) | (guard_target =~ gY (.binOp .add _ _ _ _); exact ya rfl rfl (by omega)) | (guard_target =~ gY (.binOp .sub _ _ _ _); exact zw rfl rfl (by omega)) | (guard_target =~ gY (.call _); (first| exact yx rfl|exact yy rfl)) | (guard_target =~ gY (.build _ _); exact yg rfl rfl) | (guard_target =~ gY (.indexAddr _ _ _); exact yw rfl rfl (by omega) (by omega))) ?_
          | refine WU.skip rfl rfl rfl ?_)
      | (guard_target =~ gW (.seq _ _); refine W.seq ?_)
      | (guard_target =~ gW (.region _ _ false); refine W.reg ?_)
      | (guard_target =~ gW (.cond _ _ _); first | refine W.cond_t rfl ?_ | refine W.cond_f rfl ?_)
      | (guard_target =~ gW (.block _ _); refine W.block ?_)
      | (guard_target =~ gW .skip; refine W.skip ?_)
      | (guard_target =~ gW (.exit _); refine W.exit ?_)
      | (guard_target =~ gW .ret; refine W.ret ?_)
      | (guard_target =~ gT .normal; refine thn_normal ?_)
      | (guard_target =~ gT (.exit _); refine thn_exit ?_)
      | (guard_target =~ gT .ret; refine thn_ret ?_)
      | (guard_target =~ gI .normal; refine inb_normal ?_)
      | (guard_target =~ gI (.exit _); first | refine inb_hit ?_ | refine inb_miss rfl ?_)
      | (guard_target =~ gI .ret; refine inb_ret ?_)))
  exact fin1 (.inl rfl) rfl rfl ⟨.inl ⟨rfl, rfl⟩, x1⟩

set_option maxHeartbeats 1000000 in
theorem ct_mp_slice {w0 w : World} {b r cc : Nat} {es : Array MapEntry}  (hp : Pl w0 b)  (hx : Ext w0 w) (hle : w0.heap.size ≤ r) (hm : Has w r (.map es cc)) (hn : NoKey w 56 ⟨b, 0, none⟩ es.toList) :
    Calls Tryz.prog 40 #[(.iface 56 (.pointer (some ⟨b, 0, none⟩))), .bool true, .map (some r)] w (Ret fun r w' => Rz r false ∧ Ext w0 w') := by
  refine W.enter (args := [(.iface 56 (.pointer (some ⟨b, 0, none⟩))), .bool true, .map (some r)]) Tryz.func40 rfl Tryz.ntmps40 rfl rfl ?_
  (repeat (first
      | (guard_target =~ gU _; first
          | (guard_target =~ gU []; first | refine WU.nilk ?_ | refine WU.nil ?_)
          | refine WU.yld rfl rfl rfl (by first | (guard_target =~ gY (.move _); exact ze rfl) | (guard_target =~ gY (.assign _); exact yf rfl) | (guard_target =~ gY (.load _ _); (first| exact za rfl rfl|exact zb rfl)) | (guard_target =~ gY (.fieldAddr _ _ _); exact yt rfl) | (guard_target =~ gY (.nilCheck _); (first| exact zq rfl|exact zr rfl)) | (guard_target =~ gY (.extract _ _); exact ys rfl rfl) | (guard_target =~ gY (.typeAssert _ _ _ true); (first| exact ye rfl rfl|exact yd rfl rfl (by first | rfl | assumption)|exact yc rfl rfl)) | (guard_target =~ gY (.typeAssert _ _ _ false); exact yb rfl rfl) | (guard_target =~ gY (.makeInterface _ _); exact zd rfl rfl) | (guard_target =~ gY (.pick _ _ _); (first| exact zv rfl rfl|exact zu rfl rfl|exact zt rfl rfl rfl)) | (guard_target =~ gY (.binOp .neq _ _ _ _); (first| exact zj rfl rfl|exact zn rfl rfl|exact zm rfl rfl|exact zg rfl rfl|exact zh rfl rfl|exact zl rfl rfl|exact zf rfl rfl|exact zp rfl rfl|exact zk rfl rfl|exact zo rfl rfl|exact zi (by first | decide | assumption) rfl rfl)) | (guard_target =~ gY (.binOp .eql _ _ _ _); (first| exact yl rfl rfl|exact yp rfl rfl|exact yo rfl rfl|exact yi rfl rfl|exact yj rfl rfl|exact yn rfl rfl|exact yh rfl rfl|exact yr rfl rfl|exact ym rfl rfl|exact yq rfl rfl|exact yk (by first | decide | assumption) rfl rfl)) | (guard_target =~ gY (.unOp .not _ _); exact zs rfl) | (guard_target =~ gY (.binOp .lss _ _ _ _); exact zc rfl rfl) | (guard_target =~ gY (.binOp .leq _ _ _ _); exact yz rfl rfl) | (guard_target =~ gY (.binOp .gtr _ _ _ _); exact yv rfl rfl) | (guard_target =~ gY (.binOp .geq _ _ _ _); exact yu rfl rfl) | (guard_target =~ gY (.binOp .add _ _ _ _); exact ya rfl rfl (by omega)) | (guard_target =~ gY (.binOp .sub _ _ _ _); exact zw rfl rfl (by omega)) | (guard_target =~ gY (.call _); (first| exact yx rfl|exact yy rfl)) | (guard_target =~ gY (.build _ _); exact yg rfl rfl) | (guard_target =~ gY (.indexAddr _ _ _); exact yw rfl rfl (by omega) (by omega))) ?_
          | refine WU.skip rfl rfl rfl ?_)
      | (guard_target =~ gW (.seq _ _); refine W.seq ?_)
      | (guard_target =~ gW (.region _ _ false); refine W.reg ?_)
      | (guard_target =~ gW (.cond _ _ _); first | refine W.cond_t rfl ?_ | refine W.cond_f rfl ?_)
      | (guard_target =~ gW (.block _ _); refine W.block ?_)
      | (guard_target =~ gW .skip; refine W.skip ?_)
      | (guard_target =~ gW (.exit _); refine W.exit ?_)
      | (guard_target =~ gW .ret; refine W.ret ?_)
      | (guard_target =~ gT .normal; refine thn_normal ?_)
      | (guard_target =~ gT (.exit _); refine thn_exit ?_)
      | (guard_target =~ gT .ret; refine thn_ret ?_)
      | (guard_target =~ gI .normal; refine inb_normal ?_)
      | (guard_target =~ gI (.exit _); first | refine inb_hit ?_ | refine inb_miss rfl ?_)
      | (guard_target =~ gI .ret; refine inb_ret ?_)))
  refine WU.stp rfl rfl rfl (stp_lookup_no rfl rfl hm (hp.ext' hx) hn) ?_
  rintro _ _ ⟨rfl, rfl⟩
  (repeat (first
      | (guard_target =~ gU _; first
          | (guard_target =~ gU []; first | refine WU.nilk ?_ | refine WU.nil ?_)
          | refine WU.yld rfl rfl rfl (by first | (guard_target =~ gY (.move _); exact ze rfl) | (guard_target =~ gY (.assign _); exact yf rfl) | (guard_target =~ gY (.load _ _); (first| exact za rfl rfl|exact zb rfl)) | (guard_target =~ gY (.fieldAddr _ _ _); exact yt rfl) | (guard_target =~ gY (.nilCheck _); (first| exact zq rfl|exact zr rfl)) | (guard_target =~ gY (.extract _ _); exact ys rfl rfl) | (guard_target =~ gY (.typeAssert _ _ _ true); (first| exact ye rfl rfl|exact yd rfl rfl (by first | rfl | assumption)|exact yc rfl rfl)) | (guard_target =~ gY (.typeAssert _ _ _ false); exact yb rfl rfl) | (guard_target =~ gY (.makeInterface _ _); exact zd rfl rfl) | (guard_target =~ gY (.pick _ _ _); (first| exact zv rfl rfl|exact zu rfl rfl|exact zt rfl rfl rfl)) | (guard_target =~ gY (.binOp .neq _ _ _ _); (first| exact zj rfl rfl|exact zn rfl rfl|exact zm rfl rfl|exact zg rfl rfl|exact zh rfl rfl|exact zl rfl rfl|exact zf rfl rfl|exact zp rfl rfl|exact zk rfl rfl|exact zo rfl rfl|exact zi (by first | decide | assumption) rfl rfl)) | (guard_target =~ gY (.binOp .eql _ _ _ _); (first| exact yl rfl rfl|exact yp rfl rfl|exact yo rfl rfl|exact yi rfl rfl|exact yj rfl rfl|exact yn rfl rfl|exact yh rfl rfl|exact yr rfl rfl|exact ym rfl rfl|exact yq rfl rfl|exact yk (by first | decide | assumption) rfl rfl)) | (guard_target =~ gY (.unOp .not _ _); exact zs rfl) | (guard_target =~ gY (.binOp .lss _ _ _ _); exact zc rfl rfl) | (guard_target =~ gY (.binOp .leq _ _ _ _); exact yz rfl rfl) | (guard_target =~ gY (.binOp .gtr _ _ _ _); exact yv rfl rfl) | (guard_target =~ gY (.binOp .geq _ _ _ _); exact yu rfl rfl) | (guard_target =~ gY (.binOp .add _ _ _ _); exact ya rfl rfl (by omega)) | (guard_target =~ gY (.binOp .sub _ _ _ _); exact zw rfl rfl (by omega)) | (guard_target =~ gY (.call _); (first| exact yx rfl|exact yy rfl)) | (guard_target =~ gY (.build _ _); exact yg rfl rfl) | (guard_target =~ gY (.indexAddr _ _ _); exact yw rfl rfl (by omega) (by omega))) ?_
          | refine WU.skip rfl rfl rfl ?_)
      | (guard_target =~ gW (.seq _ _); refine W.seq ?_)
      | (guard_target =~ gW (.region _ _ false); refine W.reg ?_)
      | (guard_target =~ gW (.cond _ _ _); first | refine W.cond_t rfl ?_ | refine W.cond_f rfl ?_)
      | (guard_target =~ gW (.block _ _); refine W.block ?_)
      | (guard_target =~ gW .skip; refine W.skip ?_)
      | (guard_target =~ gW (.exit _); refine W.exit ?_)
      | (guard_target =~ gW .ret; refine W.ret ?_)
      | (guard_target =~ gT .normal; refine thn_normal ?_)
      | (guard_target =~ gT (.exit _); refine thn_exit ?_)
      | (guard_target =~ gT .ret; refine thn_ret ?_)
      | (guard_target =~ gI .normal; refine inb_normal ?_)
      | (guard_target =~ gI (.exit _); first | refine inb_hit ?_ | refine inb_miss rfl ?_)
      | (guard_target =~ gI .ret; refine inb_ret ?_)))
  refine WU.stp0 rfl rfl (stp_mapNew rfl rfl rfl hm (hp.ext' hx) hn) ?_
  rintro _ w1 u1
  have x1 : Ext w0 w1 := u1.ext hx hle
  (repeat (first
      | (guard_target =~ gU _; first
          | (guard_target =~ gU []; first | refine WU.nilk ?_ | refine WU.nil ?_)
          | refine WU.yld rfl rfl rfl (by first | (guard_target =~ gY (.move _); exact ze rfl) | (guard_target =~ gY (.assign _); exact yf rfl) | (guard_target =~ gY (.load _ _); (first| exact za rfl rfl|exact zb rfl)) | (guard_target =~ gY (.fieldAddr _ _ _); exact yt rfl) | (guard_target =~ gY (.nilCheck _); (first| exact zq rfl|exact zr rfl)) | (guard_target =~ gY (.extract _ _); exact ys rfl rfl) | (guard_target =~ gY (.typeAssert _ _ _ true); (first| exact ye rfl rfl|exact yd rfl rfl (by first | rfl | assumption)|exact yc rfl rfl)) | (guard_target =~ gY (.typeAssert _ _ _ false); exact yb rfl rfl) | (guard_target =~ gY (.makeInterface _ _); exact zd rfl rfl) | (guard_target =~ gY (.pick _ _ _); (first| exact zv rfl rfl|exact zu rfl rfl|exact zt rfl rfl rfl)) | (guard_target =~ gY (.binOp .neq _ _ _ _); (first| exact zj rfl rfl|exact zn rfl rfl|exact zm rfl rfl|exact zg rfl rfl|exact zh rfl rfl|exact zl rfl rfl|exact zf rfl rfl|exact zp rfl rfl|exact zk rfl rfl|exact zo rfl rfl|exact zi (by first | decide | assumption) rfl rfl)) | (guard_target =~ gY (.binOp .eql _ _ _ _); (first| exact yl rfl rfl|exact yp rfl rfl|exact yo rfl rfl|exact yi rfl rfl|exact yj rfl rfl|exact yn rfl rfl|exact yh rfl rfl|exact yr rfl rfl|exact ym rfl rfl|exact yq rfl rfl|exact yk (by first | decide | assumption) rfl rfl)) | (guard_target =~ gY (.unOp .not _ _); exact zs rfl) | (guard_target =~ gY (.binOp .lss _ _ _ _); exact zc rfl rfl) | (guard_target =~ gY (.binOp .leq _ _ _ _); exact yz rfl rfl) | (guard_target =~ gY (.binOp .gtr _ _ _ _); exact yv rfl rfl) | (guard_target =~ gY (.binOp .geq _ _ _ _); exact yu rfl rfl) | (guard_target =~ gY (.binOp .add _ _ _ _); exact ya rfl rfl (by omega)) | (guard_target =~ gY (.binOp .sub _ _ _ _); exact zw rfl rfl (by omega)) | (guard_target =~ gY (.call _); (first| exact yx rfl|exact yy rfl)) | (guard_target =~ gY (.build _ _); exact yg rfl rfl) | (guard_target =~ gY (.indexAddr _ _ _); exact yw rfl rfl (by omega) (by omega))) ?_
          | refine WU.skip rfl rfl rfl ?_)
      | (guard_target =~ gW (.seq _ _); refine W.seq ?_)
      | (guard_target =~ gW (.region _ _ false); refine W.reg ?_)
      | (guard_target =~ gW (.cond _ _ _); first | refine W.cond_t rfl ?_ | refine W.cond_f rfl ?_)
      | (guard_target =~ gW (.block _ _); refine W.block ?_)
      | (guard_target =~ gW .skip; refine W.skip ?_)
      | (guard_target =~ gW (.exit _); refine W.exit ?_)
      | (guard_target =~ gW .ret; refine W.ret ?_)
      | (guard_target =~ gT .normal; refine thn_normal ?_)
      | (guard_target =~ gT (.exit _); refine thn_exit ?_)
      | (guard_target =~ gT .ret; refine thn_ret ?_)
      | (guard_target =~ gI .normal; refine inb_normal ?_)
      | (guard_target =~ gI (.exit _); first | refine inb_hit ?_ | refine inb_miss rfl ?_)
      | (guard_target =~ gI .ret; refine inb_ret ?_)))
  refine WU.stp rfl rfl rfl (stp_invoke rfl rfl (c_Und_slice b w1)) ?_
  rintro _ _ ⟨rfl, rfl⟩
  (repeat (first
      | (guard_target =~ gU _; first
          | (guard_target =~ gU []; first | refine WU.nilk ?_ | refine WU.nil ?_)
          | refine WU.yld rfl rfl rfl (by first | (guard_target =~ gY (.move _); exact ze rfl) | (guard_target =~ gY (.assign _); exact yf rfl) | (guard_target =~ gY (.load _ _); (first| exact za rfl rfl|exact zb rfl)) | (guard_target =~ gY (.fieldAddr _ _ _); exact yt rfl) | (guard_target =~ gY (.nilCheck _); (first| exact zq rfl|exact zr rfl)) | (guard_target =~ gY (.extract _ _); exact ys rfl rfl) | (guard_target =~ gY (.typeAssert _ _ _ true); (first| exact ye rfl rfl|exact yd rfl rfl (by first | rfl | assumption)|exact yc rfl rfl)) | (guard_target =~ gY (.typeAssert _ _ _ false); exact yb rfl rfl) | (guard_target =~ gY (.makeInterface _ _); exact zd rfl rfl) | (guard_target =~ gY (.pick _ _ _); (first| exact zv rfl rfl|exact zu rfl rfl|exact zt rfl rfl rfl)) | (guard_target =~ gY (.binOp .neq _ _ _ _); (first| exact zj rfl rfl|exact zn rfl rfl|exact zm rfl rfl|exact zg rfl rfl|exact zh rfl rfl|exact zl rfl rfl|exact zf rfl rfl|exact zp rfl rfl|exact zk rfl rfl|exact zo rfl rfl|exact zi (by first | decide | assumption) rfl rfl)) | (guard_target =~ gY (.binOp .eql _ _ _ _); (first| exact yl rfl rfl|exact yp rfl rfl|exact yo rfl rfl|exact yi rfl rfl|exact yj rfl rfl|exact yn rfl rfl|exact yh rfl rfl|exact yr rfl rfl|exact ym rfl rfl|exact yq rfl rfl|exact yk (by first | decide | assumption) rfl rfl)) | (guard_target =~ gY (.unOp .not _ _); exact zs rfl) | (guard_target =~ gY (.binOp .lss _ _ _ _); exact zc rfl rfl) | (guard_target =~ gY (.binOp .leq _ _ _ _); exact yz rfl rfl) | (guard_target =~ gY (.binOp .gtr _ _ _ _); exact yv rfl rfl) | (guard_target =~ gY (.binOp .geq _ _ _ _); exact yu rfl rfl) | (guard_target =~ gY (.binOp .add _ _ _ _); exact ya rfl rfl (by omega)) | (guard_target =~ gY (.binOp .sub _ _ _ _); exact zw rfl rfl (by omega)) | (guard_target =~ gY (.call _); (first| exact yx rfl|exact yy rfl)) | (guard_target =~ gY (.build _ _); exact yg rfl rfl) | (guard_target =~ gY (.indexAddr _ _ _); exact yw rfl rfl (by omega) (by omega))) ?_
          | refine WU.skip rfl rfl rfl ?_)
      | (guard_target =~ gW (.seq _ _); refine W.seq ?_)
      | (guard_target =~ gW (.region _ _ false); refine W.reg ?_)
      | (guard_target =~ gW (.cond _ _ _); first | refine W.cond_t rfl ?_ | refine W.cond_f rfl ?_)
      | (guard_target =~ gW (.block _ _); refine W.block ?_)
      | (guard_target =~ gW .skip; refine W.skip ?_)
      | (guard_target =~ gW (.exit _); refine W.exit ?_)
      | (guard_target =~ gW .ret; refine W.ret ?_)
      | (guard_target =~ gT .normal; refine thn_normal ?_)
      | (guard_target =~ gT (.exit _); refine thn_exit ?_)
      | (guard_target =~ gT .ret; refine thn_ret ?_)
      | (guard_target =~ gI .normal; refine inb_normal ?_)
      | (guard_target =~ gI (.exit _); first | refine inb_hit ?_ | refine inb_miss rfl ?_)
      | (guard_target =~ gI .ret; refine inb_ret ?_)))
  refine WU.stp rfl rfl rfl (stp_call rfl (c_typeErrorf _ _ _ _ w1)) ?_
  rintro _ w2 ⟨⟨k, rfl⟩, x2⟩
  (repeat (first
      | (guard_target =~ gU _; first
          | (guard_target =~ gU []; first | refine WU.nilk ?_ | refine WU.nil ?_)
          | refine WU.yld rfl rfl rfl (by first | (guard_target =~ gY (.move _); exact ze rfl) | (guard_target =~ gY (.assign _); exact yf rfl) | (guard_target =~ gY (.load _ _); (first| exact za rfl rfl|exact zb rfl)) | (guard_target =~ gY (.fieldAddr _ _ _); exact yt rfl) | (guard_target =~ gY (.nilCheck _); (first| exact zq rfl|exact zr rfl)) | (guard_target =~ gY (.extract _ _); exact ys rfl rfl) | (guard_target =~ gY (.typeAssert _ _ _ true); (first| exact ye rfl rfl|exact yd rfl rfl (by first | rfl | assumption)|exact yc rfl rfl)) | (guard_target =~ gY (.typeAssert _ _ _ false); exact yb rfl rfl) | (guard_target =~ gY (.makeInterface _ _); exact zd rfl rfl) | (guard_target =~ gY (.pick _ _ _); (first| exact zv rfl rfl|exact zu rfl rfl|exact zt rfl rfl rfl)) | (guard_target =~ gY (.binOp .neq _ _ _ _); (first| exact zj rfl rfl|exact zn rfl rfl|exact zm rfl rfl|exact zg rfl rfl|exact zh rfl rfl|exact zl rfl rfl|exact zf rfl rfl|exact zp rfl rfl|exact zk rfl rfl|exact zo rfl rfl|exact zi (by first | decide | assumption) rfl rfl)) | (guard_target =~ gY (.binOp .eql _ _ _ _); (first| exact yl rfl rfl|exact yp rfl rfl|exact yo rfl rfl|exact yi rfl rfl|exact yj rfl rfl|exact yn rfl rfl|exact yh rfl rfl|exact yr rfl rfl|exact ym rfl rfl|exact yq rfl rfl|exact yk (by first | decide | assumption) rfl rfl)) | (guard_target =~ gY (.unOp .not _ _); exact zs rfl) | (guard_target =~ gY (.binOp .lss _ _ _ _); exact zc rfl rfl) | (guard_target =~ gY (.binOp .leq _ _ _ _); exact yz rfl rfl) | (guard_target =~ gY (.binOp .gtr _ _ _ _); exact yv rfl rfl) | (guard_target =~ gY (.binOp .geq _ _ _ _); exact yu rfl rfl) | (guard_target =~ gY (.binOp .add _ _ _ _); exact ya rfl rfl (by omega)) | (guard_target =~ gY (.binOp .sub _ _ _ _); exact zw rfl rfl (by omega)) | (guard_target =~ gY (.call _); (first| exact yx rfl|exact yy rfl)) | (guard_target =~ gY (.build _ _); exact yg rfl rfl) | (guard_target =~ gY (.indexAddr _ _ _); exact yw rfl rfl (by omega) (by omega))) ?_
          | refine WU.skip rfl rfl rfl ?_)
      | (guard_target =~ gW (.seq _ _); refine W.seq ?_)
      | (guard_target =~ gW (.region _ _ false); refine W.reg ?_)
      | (guard_target =~ gW (.cond _ _ _); first | refine W.cond_t rfl ?_ | refine W.cond_f rfl ?_)
      | (guard_target =~ gW (.block _ _); refine W.block ?_)
      | (guard_target =~ gW .skip; refine W.skip ?_)
      | (guard_target =~ gW (.exit _); refine W.exit ?_)
      | (guard_target =~ gW .ret; refine W.ret ?_)
      | (guard_target =~ gT .normal; refine thn_normal ?_)
      | (guard_target =~ gT (.exit _); refine thn_exit ?_)
      | (guard_target =~ gT .ret; refine thn_ret ?_)
      | (guard_target =~ gI .normal; refine inb_normal ?_)
      | (guard_target =~ gI (.exit _); first | refine inb_hit ?_ | refine inb_miss rfl ?_)
      | (guard_target =~ gI .ret; refine inb_ret ?_)))
  exact fin1 (.inl rfl) rfl rfl ⟨.inr ⟨rfl, _, rfl⟩, x1.trans x2⟩

set_option maxHeartbeats 1000000 in
theorem ct_mp_array {w0 w : World} {b r cc : Nat} {es : Array MapEntry} {m : Int} {v : Value} {q : Bool} (hp : Pl w0 b) (h1 : Has w0 b (.cells #[.int .i64 m, v] 84)) (hx : Ext w0 w) (hle : w0.heap.size ≤ r) (hm : Has w r (.map es cc)) (hn : NoKey w 58 ⟨b, 0, none⟩ es.toList)
    (ih : ∀ (w' : World) (r' : Nat) (es' : Array MapEntry) (c' : Nat), Ext w0 w' → w0.heap.size ≤ r' → Has w' r' (.map (es'.push ⟨(.iface 58 (.pointer (some ⟨b, 0, none⟩))), .bool true, c'⟩) (c' + 1)) → es' = es →
      Calls Tryz.prog 40 #[v, .bool true, .map (some r')] w' (Ret fun r w'' => Rz r q ∧ Ext w0 w'')) :
    Calls Tryz.prog 40 #[(.iface 58 (.pointer (some ⟨b, 0, none⟩))), .bool true, .map (some r)] w (Ret fun r w' => Rz r q ∧ Ext w0 w') := by
  refine W.enter (args := [(.iface 58 (.pointer (some ⟨b, 0, none⟩))), .bool true, .map (some r)]) Tryz.func40 rfl Tryz.ntmps40 rfl rfl ?_
  (repeat (first
      | (guard_target =~ gU _; first
          | (guard_target =~ gU []; first | refine WU.nilk ?_ | refine WU.nil ?_)
          | refine WU.yld rfl rfl rfl (by first | (guard_target =~ gY (.move _); exact ze rfl) | (guard_target =~ gY (.assign _); exact yf rfl) | (guard_target =~ gY (.load _ _); (first| exact za rfl rfl|exact zb rfl)) | (guard_target =~ gY (.fieldAddr _ _ _); exact yt rfl) | (guard_target =~ gY (.nilCheck _); (first| exact zq rfl|exact zr rfl)) | (guard_target =~ gY (.extract _ _); exact ys rfl rfl) | (guard_target =~ gY (.typeAssert _ _ _ true); (first| exact ye rfl rfl|exact yd rfl rfl (by first | rfl | assumption)|exact yc rfl rfl)) | (guard_target =~ gY (.typeAssert _ _ _ false); exact yb rfl rfl) | (guard_target =~ gY (.makeInterface _ _); exact zd rfl rfl) | (guard_target =~ gY (.pick _ _ _); (first| exact zv rfl rfl|exact zu rfl rfl|exact zt rfl rfl rfl)) | (guard_target =~ gY (.binOp .neq _ _ _ _); (first| exact zj rfl rfl|exact zn rfl rfl|exact zm rfl rfl|exact zg rfl rfl|exact zh rfl rfl|exact zl rfl rfl|exact zf rfl rfl|exact zp rfl rfl|exact zk rfl rfl|exact zo rfl rfl|exact zi (by first | decide | assumption) rfl rfl)) | (guard_target =~ gY (.binOp .eql _ _ _ _); (first| exact yl rfl rfl|exact yp rfl rfl|exact yo rfl rfl|exact yi rfl rfl|exact yj rfl rfl|exact yn rfl rfl|exact yh rfl rfl|exact yr rfl rfl|exact ym rfl rfl|exact yq rfl rfl|exact yk (by first | decide | assumption) rfl rfl)) | (guard_target =~ gY (.unOp .not _ _); exact zs rfl) | (guard_target =~ gY (.binOp .lss _ _ _ _); exact zc rfl rfl) | (guard_target =~ gY (.binOp .leq _ _ _ _); exact yz rfl rfl) | (guard_target =~ gY (.binOp .gtr _ _ _ _); exact yv rfl rfl) | (guard_target =~ gY (.binOp .geq _ _ _ _); exact yu rfl rfl) | (guard_target =~ gY (.binOp .add _ _ _ _); exact ya rfl rfl (by omega)) | (guard_target =~ gY (.binOp .sub _ _ _ _); exact zw rfl rfl (by omega)) | (guard_target =~ gY (.call _); (first| exact yx rfl|exact yy rfl)) | (guard_target =~ gY (.build _ _); exact yg rfl rfl) | (guard_target =~ gY (.indexAddr _ _ _); exact yw rfl rfl (by omega) (by omega))) ?_
          | refine WU.skip rfl rfl rfl ?_)
      | (guard_target =~ gW (.seq _ _); refine W.seq ?_)
      | (guard_target =~ gW (.region _ _ false); refine W.reg ?_)
      | (guard_target =~ gW (.cond _ _ _); first | refine W.cond_t rfl ?_ | refine W.cond_f rfl ?_)
      | (guard_target =~ gW (.block _ _); refine W.block ?_)
      | (guard_target =~ gW .skip; refine W.skip ?_)
      | (guard_target =~ gW (.exit _); refine W.exit ?_)
      | (guard_target =~ gW .ret; refine W.ret ?_)
      | (guard_target =~ gT .normal; refine thn_normal ?_)
      | (guard_target =~ gT (.exit _); refine thn_exit ?_)
      | (guard_target =~ gT .ret; refine thn_ret ?_)
      | (guard_target =~ gI .normal; refine inb_normal ?_)
      | (guard_target =~ gI (.exit _); first | refine inb_hit ?_ | refine inb_miss rfl ?_)
      | (guard_target =~ gI .ret; refine inb_ret ?_)))
  refine WU.stp rfl rfl rfl (stp_lookup_no rfl rfl hm (hp.ext' hx) hn) ?_
  rintro _ _ ⟨rfl, rfl⟩
  (repeat (first
      | (guard_target =~ gU _; first
          | (guard_target =~ gU []; first | refine WU.nilk ?_ | refine WU.nil ?_)
          | refine WU.yld rfl rfl rfl (by first | (guard_target =~ gY (.move _); exact ze rfl) | (guard_target =~ gY (.assign _); exact yf rfl) | (guard_target =~ gY (.load _ _); (first| exact za rfl rfl|exact zb rfl)) | (guard_target =~ gY (.fieldAddr _ _ _); exact yt rfl) | (guard_target =~ gY (.nilCheck _); (first| exact zq rfl|exact zr rfl)) | (guard_target =~ gY (.extract _ _); exact ys rfl rfl) | (guard_target =~ gY (.typeAssert _ _ _ true); (first| exact ye rfl rfl|exact yd rfl rfl (by first | rfl | assumption)|exact yc rfl rfl)) | (guard_target =~ gY (.typeAssert _ _ _ false); exact yb rfl rfl) | (guard_target =~ gY (.makeInterface _ _); exact zd rfl rfl) | (guard_target =~ gY (.pick _ _ _); (first| exact zv rfl rfl|exact zu rfl rfl|exact zt rfl rfl rfl)) | (guard_target =~ gY (.binOp .neq _ _ _ _); (first| exact zj rfl rfl|exact zn rfl rfl|exact zm rfl rfl|exact zg rfl rfl|exact zh rfl rfl|exact zl rfl rfl|exact zf rfl rfl|exact zp rfl rfl|exact zk rfl rfl|exact zo rfl rfl|exact zi (by first | decide | assumption) rfl rfl)) | (guard_target =~ gY (.binOp .eql _ _ _ _); (first| exact yl rfl rfl|exact yp rfl rfl|exact yo rfl rfl|exact yi rfl rfl|exact yj rfl rfl|exact yn rfl rfl|exact yh rfl rfl|exact yr rfl rfl|exact ym rfl rfl|exact yq rfl rfl|exact yk (by first | decide | assumption) rfl rfl)) | (guard_target =~ gY (.unOp .not _ _); exact zs rfl) | (guard_target =~ gY (.binOp .lss _ _ _ _); exact zc rfl rfl) | (guard_target =~ gY (.binOp .leq _ _ _ _); exact yz rfl rfl) | (guard_target =~ gY (.binOp .gtr _ _ _ _); exact yv rfl rfl) | (guard_target =~ gY (.binOp .geq _ _ _ _); exact yu rfl rfl) | (guard_target =~ gY (.binOp .add _ _ _ _); exact ya rfl rfl (by omega)) | (guard_target =~ gY (.binOp .sub _ _ _ _); exact zw rfl rfl (by omega)) | (guard_target =~ gY (.call _); (first| exact yx rfl|exact yy rfl)) | (guard_target =~ gY (.build _ _); exact yg rfl rfl) | (guard_target =~ gY (.indexAddr _ _ _); exact yw rfl rfl (by omega) (by omega))) ?_
          | refine WU.skip rfl rfl rfl ?_)
      | (guard_target =~ gW (.seq _ _); refine W.seq ?_)
      | (guard_target =~ gW (.region _ _ false); refine W.reg ?_)
      | (guard_target =~ gW (.cond _ _ _); first | refine W.cond_t rfl ?_ | refine W.cond_f rfl ?_)
      | (guard_target =~ gW (.block _ _); refine W.block ?_)
      | (guard_target =~ gW .skip; refine W.skip ?_)
      | (guard_target =~ gW (.exit _); refine W.exit ?_)
      | (guard_target =~ gW .ret; refine W.ret ?_)
      | (guard_target =~ gT .normal; refine thn_normal ?_)
      | (guard_target =~ gT (.exit _); refine thn_exit ?_)
      | (guard_target =~ gT .ret; refine thn_ret ?_)
      | (guard_target =~ gI .normal; refine inb_normal ?_)
      | (guard_target =~ gI (.exit _); first | refine inb_hit ?_ | refine inb_miss rfl ?_)
      | (guard_target =~ gI .ret; refine inb_ret ?_)))
  refine WU.stp0 rfl rfl (stp_mapNew rfl rfl rfl hm (hp.ext' hx) hn) ?_
  rintro _ w1 u1
  have x1 : Ext w0 w1 := u1.ext hx hle
  (repeat (first
      | (guard_target =~ gU _; first
          | (guard_target =~ gU []; first | refine WU.nilk ?_ | refine WU.nil ?_)
          | refine WU.yld rfl rfl rfl (by first | (guard_target =~ gY (.move _); exact ze rfl) | (guard_target =~ gY (.assign _); exact yf rfl) | (guard_target =~ gY (.load _ _); (first| exact za rfl rfl|exact zb rfl)) | (guard_target =~ gY (.fieldAddr _ _ _); exact yt rfl) | (guard_target =~ gY (.nilCheck _); (first| exact zq rfl|exact zr rfl)) | (guard_target =~ gY (.extract _ _); exact ys rfl rfl) | (guard_target =~ gY (.typeAssert _ _ _ true); (first| exact ye rfl rfl|exact yd rfl rfl (by first | rfl | assumption)|exact yc rfl rfl)) | (guard_target =~ gY (.typeAssert _ _ _ false); exact yb rfl rfl) | (guard_target =~ gY (.makeInterface _ _); exact zd rfl rfl) | (guard_target =~ gY (.pick _ _ _); (first| exact zv rfl rfl|exact zu rfl rfl|exact zt rfl rfl rfl)) | (guard_target =~ gY (.binOp .neq _ _ _ _); (first| exact zj rfl rfl|exact zn rfl rfl|exact zm rfl rfl|exact zg rfl rfl|exact zh rfl rfl|exact zl rfl rfl|exact zf rfl rfl|exact zp rfl rfl|exact zk rfl rfl|exact zo rfl rfl|exact zi (by first | decide | assumption) rfl rfl)) | (guard_target =~ gY (.binOp .eql _ _ _ _); (first| exact yl rfl rfl|exact yp rfl rfl|exact yo rfl rfl|exact yi rfl rfl|exact yj rfl rfl|exact yn rfl rfl|exact yh rfl rfl|exact yr rfl rfl|exact ym rfl rfl|exact yq rfl rfl|exact yk (by first | decide | assumption) rfl rfl)) | (guard_target =~ gY (.unOp .not _ _); exact zs rfl) | (guard_target =~ gY (.binOp .lss _ _ _ _); exact zc rfl rfl) | (guard_target =~ gY (.binOp .leq _ _ _ _); exact yz rfl rfl) | (guard_target =~ gY (.binOp .gtr _ _ _ _); exact yv rfl rfl) | (guard_target =~ gY (.binOp .geq _ _ _ _); exact yu rfl rfl) | (guard_target =~ gY (.binOp .add _ _ _ _); exact ya rfl rfl (by omega)) | (guard_target =~ gY (.binOp .sub _ _ _ _); exact zw rfl rfl (by omega)) | (guard_target =~ gY (.call _); (first| exact yx rfl|exact yy rfl)) | (guard_target =~ gY (.build _ _); exact yg rfl rfl) | (guard_target =~ gY (.indexAddr _ _ _); exact yw rfl rfl (by omega) (by omega))) ?_
          | refine WU.skip rfl rfl rfl ?_)
      | (guard_target =~ gW (.seq _ _); refine W.seq ?_)
      | (guard_target =~ gW (.region _ _ false); refine W.reg ?_)
      | (guard_target =~ gW (.cond _ _ _); first | refine W.cond_t rfl ?_ | refine W.cond_f rfl ?_)
      | (guard_target =~ gW (.block _ _); refine W.block ?_)
      | (guard_target =~ gW .skip; refine W.skip ?_)
      | (guard_target =~ gW (.exit _); refine W.exit ?_)
      | (guard_target =~ gW .ret; refine W.ret ?_)
      | (guard_target =~ gT .normal; refine thn_normal ?_)
      | (guard_target =~ gT (.exit _); refine thn_exit ?_)
      | (guard_target =~ gT .ret; refine thn_ret ?_)
      | (guard_target =~ gI .normal; refine inb_normal ?_)
      | (guard_target =~ gI (.exit _); first | refine inb_hit ?_ | refine inb_miss rfl ?_)
      | (guard_target =~ gI .ret; refine inb_ret ?_)))
  refine WU.stp rfl rfl rfl (stp_invoke rfl rfl (c_Und_array b w1)) ?_
  rintro _ _ ⟨rfl, rfl⟩
  have i1 := h1.ext' x1
  (repeat (first
      | (guard_target =~ gU _; first
          | (guard_target =~ gU []; first | refine WU.nilk ?_ | refine WU.nil ?_)
          | refine WU.yld rfl rfl rfl (by first | (guard_target =~ gY (.move _); exact ze rfl) | (guard_target =~ gY (.assign _); exact yf rfl) | (guard_target =~ gY (.load _ _); (first| exact za rfl rfl|exact zb rfl)) | (guard_target =~ gY (.fieldAddr _ _ _); exact yt rfl) | (guard_target =~ gY (.nilCheck _); (first| exact zq rfl|exact zr rfl)) | (guard_target =~ gY (.extract _ _); exact ys rfl rfl) | (guard_target =~ gY (.typeAssert _ _ _ true); (first| exact ye rfl rfl|exact yd rfl rfl (by first | rfl | assumption)|exact yc rfl rfl)) | (guard_target =~ gY (.typeAssert _ _ _ false); exact yb rfl rfl) | (guard_target =~ gY (.makeInterface _ _); exact zd rfl rfl) | (guard_target =~ gY (.pick _ _ _); (first| exact zv rfl rfl|exact zu rfl rfl|exact zt rfl rfl rfl)) | (guard_target =~ gY (.binOp .neq _ _ _ _); (first| exact zj rfl rfl|exact zn rfl rfl|exact zm rfl rfl|exact zg rfl rfl|exact zh rfl rfl|exact zl rfl rfl|exact zf rfl rfl|exact zp rfl rfl|exact zk rfl rfl|exact zo rfl rfl|exact zi (by first | decide | assumption) rfl rfl)) | (guard_target =~ gY (.binOp .eql _ _ _ _); (first| exact yl rfl rfl|exact yp rfl rfl|exact yo rfl rfl|exact yi rfl rfl|exact yj rfl rfl|exact yn rfl rfl|exact yh rfl rfl|exact yr rfl rfl|exact ym rfl rfl|exact yq rfl rfl|exact yk (by first | decide | assumption) rfl rfl)) | (guard_target =~ gY (.unOp .not _ _); exact zs rfl) | (guard_target =~ gY (.binOp .lss _ _ _ _); exact zc rfl rfl) | (guard_target =~ gY (.binOp .leq _ _ _ _); exact yz rfl rfl) | (guard_target =~ gY (.binOp .gtr _ _ _ _); exact yv rfl rfl) | (guard_target =~ gY (.binOp .geq _ _ _ _); exact yu rfl rfl) | (guard_target =~ gY (.binOp .add _ _ _ _); exact ya rfl rfl (by omega)) | (guard_target =~ gY (.binOp .sub _ _ _ _); exact zw rfl rfl (by omega)) | (guard_target =~ gY (.call _); (first| exact yx rfl|exact yy rfl)) | (guard_target =~ gY (.build _ _); exact yg rfl rfl) | (guard_target =~ gY (.indexAddr _ _ _); exact yw rfl rfl (by omega) (by omega))) ?_
          | refine WU.skip rfl rfl rfl ?_)
      | (guard_target =~ gW (.seq _ _); refine W.seq ?_)
      | (guard_target =~ gW (.region _ _ false); refine W.reg ?_)
      | (guard_target =~ gW (.cond _ _ _); first | refine W.cond_t rfl ?_ | refine W.cond_f rfl ?_)
      | (guard_target =~ gW (.block _ _); refine W.block ?_)
      | (guard_target =~ gW .skip; refine W.skip ?_)
      | (guard_target =~ gW (.exit _); refine W.exit ?_)
      | (guard_target =~ gW .ret; refine W.ret ?_)
      | (guard_target =~ gT .normal; refine thn_normal ?_)
      | (guard_target =~ gT (.exit _); refine thn_exit ?_)
      | (guard_target =~ gT .ret; refine thn_ret ?_)
      | (guard_target =~ gI .normal; refine inb_normal ?_)
      | (guard_target =~ gI (.exit _); first | refine inb_hit ?_ | refine inb_miss rfl ?_)
      | (guard_target =~ gI .ret; refine inb_ret ?_)))
  refine WU.stp rfl rfl rfl (stp_call rfl (ih w1 r _ _ x1 hle u1.has rfl)) ?_
  rintro v2 w2 ⟨hv2, x2⟩
  rcases hv2 with ⟨rfl, rfl⟩ | ⟨rfl, k, rfl⟩
  · (repeat (first
      | (guard_target =~ gU _; first
          | (guard_target =~ gU []; first | refine WU.nilk ?_ | refine WU.nil ?_)
          | refine WU.yld rfl rfl rfl (by first | (guard_target =~ gY (.move _); exact ze rfl) | (guard_target =~ gY (.assign _); exact yf rfl) | (guard_target =~ gY (.load _ _); (first| exact za rfl rfl|exact zb rfl)) | (guard_target =~ gY (.fieldAddr _ _ _); exact yt rfl) | (guard_target =~ gY (.nilCheck _); (first| exact zq rfl|exact zr rfl)) | (guard_target =~ gY (.extract _ _); exact ys rfl rfl) | (guard_target =~ gY (.typeAssert _ _ _ true); (first| exact ye rfl rfl|exact yd rfl rfl (by first | rfl | assumption)|exact yc rfl rfl)) | (guard_target =~ gY (.typeAssert _ _ _ false); exact yb rfl rfl) | (guard_target =~ gY (.makeInterface _ _); exact zd rfl rfl) | (guard_target =~ gY (.pick _ _ _); (first| exact zv rfl rfl|exact zu rfl rfl|exact zt rfl rfl rfl)) | (guard_target =~ gY (.binOp .neq _ _ _ _); (first| exact zj rfl rfl|exact zn rfl rfl|exact zm rfl rfl|exact zg rfl rfl|exact zh rfl rfl|exact zl rfl rfl|exact zf rfl rfl|exact zp rfl rfl|exact zk rfl rfl|exact zo rfl rfl|exact zi (by first | decide | assumption) rfl rfl)) | (guard_target =~ gY (.binOp .eql _ _ _ _); (first| exact yl rfl rfl|exact yp rfl rfl|exact yo rfl rfl|exact yi rfl rfl|exact yj rfl rfl|exact yn rfl rfl|exact yh rfl rfl|exact yr rfl rfl|exact ym rfl rfl|exact yq rfl rfl|exact yk (by first | decide | assumption) rfl rfl)) | (guard_target =~ gY (.unOp .not _ _); exact zs rfl) | (guard_target =~ gY (.binOp .lss _ _ _ _); exact zc rfl rfl) | (guard_target =~ gY (.binOp .leq _ _ _ _); exact yz rfl rfl) | (guard_target =~ gY (.binOp .gtr _ _ _ _); exact yv rfl rfl) | (guard_target =~ gY (.binOp .geq _ _ _ _); exact yu rfl rfl) | (guard_target =~ gY (.binOp .add _ _ _ _); exact ya rfl rfl (by omega)) | (guard_target =~ gY (.binOp .sub _ _ _ _); exact zw rfl rfl (by omega)) | (guard_target =~ gY (.call _); (first| exact yx rfl|exact yy rfl)) | (guard_target =~ gY (.build _ _); exact yg rfl rfl) | (guard_target =~ gY (.indexAddr _ _ _); exact yw rfl rfl (by omega) (by omega))) ?_
          | refine WU.skip rfl rfl rfl ?_)
      | (guard_target =~ gW (.seq _ _); refine W.seq ?_)
      | (guard_target =~ gW (.region _ _ false); refine W.reg ?_)
      | (guard_target =~ gW (.cond _ _ _); first | refine W.cond_t rfl ?_ | refine W.cond_f rfl ?_)
      | (guard_target =~ gW (.block _ _); refine W.block ?_)
      | (guard_target =~ gW .skip; refine W.skip ?_)
      | (guard_target =~ gW (.exit _); refine W.exit ?_)
      | (guard_target =~ gW .ret; refine W.ret ?_)
      | (guard_target =~ gT .normal; refine thn_normal ?_)
      | (guard_target =~ gT (.exit _); refine thn_exit ?_)
      | (guard_target =~ gT .ret; refine thn_ret ?_)
      | (guard_target =~ gI .normal; refine inb_normal ?_)
      | (guard_target =~ gI (.exit _); first | refine inb_hit ?_ | refine inb_miss rfl ?_)
      | (guard_target =~ gI .ret; refine inb_ret ?_)))
    exact fin1 (.inl rfl) rfl rfl ⟨.inl ⟨rfl, rfl⟩, x2⟩
  · (repeat (first
      | (guard_target =~ gU _; first
          | (guard_target =~ gU []; first | refine WU.nilk ?_ | refine WU.nil ?_)
          | refine WU.yld rfl rfl rfl (by first | (guard_target =~ gY (.move _); exact ze rfl) | (guard_target =~ gY (.assign _); exact yf rfl) | (guard_target =~ gY (.load _ _); (first| exact za rfl rfl|exact zb rfl)) | (guard_target =~ gY (.fieldAddr _ _ _); exact yt rfl) | (guard_target =~ gY (.nilCheck _); (first| exact zq rfl|exact zr rfl)) | (guard_target =~ gY (.extract _ _); exact ys rfl rfl) | (guard_target =~ gY (.typeAssert _ _ _ true); (first| exact ye rfl rfl|exact yd rfl rfl (by first | rfl | assumption)|exact yc rfl rfl)) | (guard_target =~ gY (.typeAssert _ _ _ false); exact yb rfl rfl) | (guard_target =~ gY (.makeInterface _ _); exact zd rfl rfl) | (guard_target =~ gY (.pick _ _ _); (first| exact zv rfl rfl|exact zu rfl rfl|exact zt rfl rfl rfl)) | (guard_target =~ gY (.binOp .neq _ _ _ _); (first| exact zj rfl rfl|exact zn rfl rfl|exact zm rfl rfl|exact zg rfl rfl|exact zh rfl rfl|exact zl rfl rfl|exact zf rfl rfl|exact zp rfl rfl|exact zk rfl rfl|exact zo rfl rfl|exact zi (by first | decide | assumption) rfl rfl)) | (guard_target =~ gY (.binOp .eql _ _ _ _); (first| exact yl rfl rfl|exact yp rfl rfl|exact yo rfl rfl|exact yi rfl rfl|exact yj rfl rfl|exact yn rfl rfl|exact yh rfl rfl|exact yr rfl rfl|exact ym rfl rfl|exact yq rfl rfl|exact yk (by first | decide | assumption) rfl rfl)) | (guard_target =~ gY (.unOp .not _ _); exact zs rfl) | (guard_target =~ gY (.binOp .lss _ _ _ _); exact zc rfl rfl) | (guard_target =~ gY (.binOp .leq _ _ _ _); exact yz rfl rfl) | (guard_target =~ gY (.binOp .gtr _ _ _ _); exact yv rfl rfl) | (guard_target =~ gY (.binOp .geq _ _ _ _); exact yu rfl rfl) | (guard_target =~ gY (.binOp .add _ _ _ _); exact ya rfl rfl (by omega)) | (guard_target =~ gY (.binOp .sub _ _ _ _); exact zw rfl rfl (by omega)) | (guard_target =~ gY (.call _); (first| exact yx rfl|exact yy rfl)) | (guard_target =~ gY (.build _ _); exact yg rfl rfl) | (guard_target =~ gY (.indexAddr _ _ _); exact yw rfl rfl (by omega) (by omega))) ?_
          | refine WU.skip rfl rfl rfl ?_)
      | (guard_target =~ gW (.seq _ _); refine W.seq ?_)
      | (guard_target =~ gW (.region _ _ false); refine W.reg ?_)
      | (guard_target =~ gW (.cond _ _ _); first | refine W.cond_t rfl ?_ | refine W.cond_f rfl ?_)
      | (guard_target =~ gW (.block _ _); refine W.block ?_)
      | (guard_target =~ gW .skip; refine W.skip ?_)
      | (guard_target =~ gW (.exit _); refine W.exit ?_)
      | (guard_target =~ gW .ret; refine W.ret ?_)
      | (guard_target =~ gT .normal; refine thn_normal ?_)
      | (guard_target =~ gT (.exit _); refine thn_exit ?_)
      | (guard_target =~ gT .ret; refine thn_ret ?_)
      | (guard_target =~ gI .normal; refine inb_normal ?_)
      | (guard_target =~ gI (.exit _); first | refine inb_hit ?_ | refine inb_miss rfl ?_)
      | (guard_target =~ gI .ret; refine inb_ret ?_)))
    refine WU.stp rfl rfl rfl (stp_buildSlice rfl rfl rfl rfl rfl) ?_
    rintro _ w3 ⟨b3, rfl, n3⟩
    refine WU.stp rfl rfl rfl (stp_call rfl (c_typeErrorf _ _ _ _ w3)) ?_
    rintro _ w4 ⟨⟨k4, rfl⟩, x4⟩
    (repeat (first
        | (guard_target =~ gU _; first
            | (guard_target =~ gU []; first | refine WU.nilk ?_ | refine WU.nil ?_)
            | refine WU.yld rfl rfl rfl (by first | (guard_target =~ gY (.move _); exact ze rfl) | (guard_target =~ gY (.assign _); exact yf rfl) | (guard_target =~ gY (.load _ _); (first| exact za rfl rfl|exact zb rfl)) | (guard_target =~ gY (.fieldAddr _ _ _); exact yt rfl) | (guard_target =~ gY (.nilCheck _); (first| exact zq rfl|exact zr rfl)) | (guard_target =~ gY (.extract _ _); exact ys rfl rfl) | (guard_target =~ gY (.typeAssert _ _ _ true); (first| exact ye rfl rfl|exact yd rfl rfl (by first | rfl | assumption)|exact yc rfl rfl)) | (guard_target =~ gY (.typeAssert _ _ _ false); exact yb rfl rfl) | (guard_target =~ gY (.makeInterface _ _); exact zd rfl rfl) | (guard_target =~ gY (.pick _ _ _); (first| exact zv rfl rfl|exact zu rfl rfl|exact zt rfl rfl rfl)) | (guard_target =~ gY (.binOp .neq _ _ _ _); (first| exact zj rfl rfl|exact zn rfl rfl|exact zm rfl rfl|exact zg rfl rfl|exact zh rfl rfl|exact zl rfl rfl|exact zf rfl rfl|exact zp rfl rfl|exact zk rfl rfl|exact zo rfl rfl|exact zi (by first | decide | assumption) rfl rfl)) | (guard_target =~ gY (.binOp .eql _ _ _ _); (first| exact yl rfl rfl|exact yp rfl rfl|exact yo rfl rfl|exact yi rfl rfl|exact yj rfl rfl|exact yn rfl rfl|exact yh rfl rfl|exact yr rfl rfl|exact ym rfl rfl|exact yq rfl rfl|exact yk (by first | decide | assumption) rfl rfl)) | (guard_target =~ gY (.unOp .not _ _); exact zs rfl) | (guard_target =~ gY (.binOp .lss _ _ _ _); exact zc rfl rfl) | (guard_target =~ gY (.binOp .leq _ _ _ _); exact yz rfl rfl) | (guard_target =~ gY (.binOp .gtr _ _ _ _); exact yv rfl rfl) | (guard_target =~ gY (.binOp .geq _ _ _ _); exact yu rfl rfl) | (guard_target =~ gY (.binOp .add _ _ _ _); exact ya rfl rfl (by omega)) | (guard_target =~ gY (.binOp .sub _ _ _ _); exact zw rfl rfl (by omega)) | (guard_target =~ gY (.call _); (first| exact yx rfl|exact yy rfl)) | (guard_target =~ gY (.build _ _); exact yg rfl rfl) | (guard_target =~ gY (.indexAddr _ _ _); exact yw rfl rfl (by omega) (by omega))) ?_
            | refine WU.skip rfl rfl rfl ?_)
        | (guard_target =~ gW (.seq _ _); refine W.seq ?_)
        | (guard_target =~ gW (.region _ _ false); refine W.reg ?_)
        | (guard_target =~ gW (.cond _ _ _); first | refine W.cond_t rfl ?_ | refine W.cond_f rfl ?_)
        | (guard_target =~ gW (.block _ _); refine W.block ?_)
        | (guard_target =~ gW .skip; refine W.skip ?_)
        | (guard_target =~ gW (.exit _); refine W.exit ?_)
        | (guard_target =~ gW .ret; refine W.ret ?_)
        | (guard_target =~ gT .normal; refine thn_normal ?_)
        | (guard_target =~ gT (.exit _); refine thn_exit ?_)
        | (guard_target =~ gT .ret; refine thn_ret ?_)
        | (guard_target =~ gI .normal; refine inb_normal ?_)
        | (guard_target =~ gI (.exit _); first | refine inb_hit ?_ | refine inb_miss rfl ?_)
        | (guard_target =~ gI .ret; refine inb_ret ?_)))
    exact fin1 (.inl rfl) rfl rfl ⟨.inr ⟨rfl, _, rfl⟩, x2.trans (n3.ext.trans x4)⟩

set_option maxHeartbeats 1000000 in
theorem ct_mp_chan {w0 w : World} {b r cc : Nat} {es : Array MapEntry}  (hp : Pl w0 b)  (hx : Ext w0 w) (hle : w0.heap.size ≤ r) (hm : Has w r (.map es cc)) (hn : NoKey w 60 ⟨b, 0, none⟩ es.toList) :
    Calls Tryz.prog 40 #[(.iface 60 (.pointer (some ⟨b, 0, none⟩))), .bool true, .map (some r)] w (Ret fun r w' => Rz r true ∧ Ext w0 w') := by
  refine W.enter (args := [(.iface 60 (.pointer (some ⟨b, 0, none⟩))), .bool true, .map (some r)]) Tryz.func40 rfl Tryz.ntmps40 rfl rfl ?_
  (repeat (first
      | (guard_target =~ gU _; first
          | (guard_target =~ gU []; first | refine WU.nilk ?_ | refine WU.nil ?_)
          | refine WU.yld rfl rfl rfl (by first | (guard_target =~ gY (.move _); exact ze rfl) | (guard_target =~ gY (.assign _); exact yf rfl) | (guard_target =~ gY (.load _ _); (first| exact za rfl rfl|exact zb rfl)) | (guard_target =~ gY (.fieldAddr _ _ _); exact yt rfl) | (guard_target =~ gY (.nilCheck _); (first| exact zq rfl|exact zr rfl)) | (guard_target =~ gY (.extract _ _); exact ys rfl rfl) | (guard_target =~ gY (.typeAssert _ _ _ true); (first| exact ye rfl rfl|exact yd rfl rfl (by first | rfl | assumption)|exact yc rfl rfl)) | (guard_target =~ gY (.typeAssert _ _ _ false); exact yb rfl rfl) | (guard_target =~ gY (.makeInterface _ _); exact zd rfl rfl) | (guard_target =~ gY (.pick _ _ _); (first| exact zv rfl rfl|exact zu rfl rfl|exact zt rfl rfl rfl)) | (guard_target =~ gY (.binOp .neq _ _ _ _); (first| exact zj rfl rfl|exact zn rfl rfl|exact zm rfl rfl|exact zg rfl rfl|exact zh rfl rfl|exact zl rfl rfl|exact zf rfl rfl|exact zp rfl rfl|exact zk rfl rfl|exact zo rfl rfl|exact zi (by first | decide | assumption) rfl rfl)) | (guard_target =~ gY (.binOp .eql _ _ _ _); (first| exact yl rfl rfl|exact yp rfl rfl|exact yo rfl rfl|exact yi rfl rfl|exact yj rfl rfl|exact yn rfl rfl|exact yh rfl rfl|exact yr rfl rfl|exact ym rfl rfl|exact yq rfl rfl|exact yk (by first | decide | assumption) rfl rfl)) | (guard_target =~ gY (.unOp .not _ _); exact zs rfl) | (guard_target =~ gY (.binOp .lss _ _ _ _); exact zc rfl rfl) | (guard_target =~ gY (.binOp .leq _ _ _ _); exact yz rfl rfl) | (guard_target =~ gY (.binOp .gtr _ _ _ _); exact yv rfl rfl) | (guard_target =~ gY (.binOp .geq _ _ _ _); exact yu rfl rfl) | (guard_target =~ gY (.binOp .add _ _ _ _); exact ya rfl rfl (by omega)) | (guard_target =~ gY (.binOp .sub _ _ _ _); exact zw rfl rfl (by omega)) | (guard_target =~ gY (.call _); (first| exact yx rfl|exact yy rfl)) | (guard_target =~ gY (.build _ _); exact yg rfl rfl) | (guard_target =~ gY (.indexAddr _ _ _); exact yw rfl rfl (by omega) (by omega))) ?_
          | refine WU.skip rfl rfl rfl ?_)
      | (guard_target =~ gW (.seq _ _); refine W.seq ?_)
      | (guard_target =~ gW (.region _ _ false); refine W.reg ?_)
      | (guard_target =~ gW (.cond _ _ _); first | refine W.cond_t rfl ?_ | refine W.cond_f rfl ?_)
      | (guard_target =~ gW (.block _ _); refine W.block ?_)
      | (guard_target =~ gW .skip; refine W.skip ?_)
      | (guard_target =~ gW (.exit _); refine W.exit ?_)
      | (guard_target =~ gW .ret; refine W.ret ?_)
      | (guard_target =~ gT .normal; refine thn_normal ?_)
      | (guard_target =~ gT (.exit _); refine thn_exit ?_)
      | (guard_target =~ gT .ret; refine thn_ret ?_)
      | (guard_target =~ gI .normal; refine inb_normal ?_)
      | (guard_target =~ gI (.exit _); first | refine inb_hit ?_ | refine inb_miss rfl ?_)
      | (guard_target =~ gI .ret; refine inb_ret ?_)))
  refine WU.stp rfl rfl rfl (stp_lookup_no rfl rfl hm (hp.ext' hx) hn) ?_
  rintro _ _ ⟨rfl, rfl⟩
  (repeat (first
      | (guard_target =~ gU _; first
          | (guard_target =~ gU []; first | refine WU.nilk ?_ | refine WU.nil ?_)
          | refine WU.yld rfl rfl rfl (by first | (guard_target =~ gY (.move _); exact ze rfl) | (guard_target =~ gY (.assign _); exact yf rfl) | (guard_target =~ gY (.load _ _); (first| exact za rfl rfl|exact zb rfl)) | (guard_target =~ gY (.fieldAddr _ _ _); exact yt rfl) | (guard_target =~ gY (.nilCheck _); (first| exact zq rfl|exact zr rfl)) | (guard_target =~ gY (.extract _ _); exact ys rfl rfl) | (guard_target =~ gY (.typeAssert _ _ _ true); (first| exact ye rfl rfl|exact yd rfl rfl (by first | rfl | assumption)|exact yc rfl rfl)) | (guard_target =~ gY (.typeAssert _ _ _ false); exact yb rfl rfl) | (guard_target =~ gY (.makeInterface _ _); exact zd rfl rfl) | (guard_target =~ gY (.pick _ _ _); (first| exact zv rfl rfl|exact zu rfl rfl|exact zt rfl rfl rfl)) | (guard_target =~ gY (.binOp .neq _ _ _ _); (first| exact zj rfl rfl|exact zn rfl rfl|exact zm rfl rfl|exact zg rfl rfl|exact zh rfl rfl|exact zl rfl rfl|exact zf rfl rfl|exact zp rfl rfl|exact zk rfl rfl|exact zo rfl rfl|exact zi (by first | decide | assumption) rfl rfl)) | (guard_target =~ gY (.binOp .eql _ _ _ _); (first| exact yl rfl rfl|exact yp rfl rfl|exact yo rfl rfl|exact yi rfl rfl|exact yj rfl rfl|exact yn rfl rfl|exact yh rfl rfl|exact yr rfl rfl|exact ym rfl rfl|exact yq rfl rfl|exact yk (by first | decide | assumption) rfl rfl)) | (guard_target =~ gY (.unOp .not _ _); exact zs rfl) | (guard_target =~ gY (.binOp .lss _ _ _ _); exact zc rfl rfl) | (guard_target =~ gY (.binOp .leq _ _ _ _); exact yz rfl rfl) | (guard_target =~ gY (.binOp .gtr _ _ _ _); exact yv rfl rfl) | (guard_target =~ gY (.binOp .geq _ _ _ _); exact yu rfl rfl) | (guard_target =~ gY (.binOp .add _ _ _ _); exact ya rfl rfl (by omega)) | (guard_target =~ gY (.binOp .sub _ _ _ _); exact zw rfl rfl (by omega)) | (guard_target =~ gY (.call _); (first| exact yx rfl|exact yy rfl)) | (guard_target =~ gY (.build _ _); exact yg rfl rfl) | (guard_target =~ gY (.indexAddr _ _ _); exact yw rfl rfl (by omega) (by omega))) ?_
          | refine WU.skip rfl rfl rfl ?_)
      | (guard_target =~ gW (.seq _ _); refine W.seq ?_)
      | (guard_target =~ gW (.region _ _ false); refine W.reg ?_)
      | (guard_target =~ gW (.cond _ _ _); first | refine W.cond_t rfl ?_ | refine W.cond_f rfl ?_)
      | (guard_target =~ gW (.block _ _); refine W.block ?_)
      | (guard_target =~ gW .skip; refine W.skip ?_)
      | (guard_target =~ gW (.exit _); refine W.exit ?_)
      | (guard_target =~ gW .ret; refine W.ret ?_)
      | (guard_target =~ gT .normal; refine thn_normal ?_)
      | (guard_target =~ gT (.exit _); refine thn_exit ?_)
      | (guard_target =~ gT .ret; refine thn_ret ?_)
      | (guard_target =~ gI .normal; refine inb_normal ?_)
      | (guard_target =~ gI (.exit _); first | refine inb_hit ?_ | refine inb_miss rfl ?_)
      | (guard_target =~ gI .ret; refine inb_ret ?_)))
  refine WU.stp0 rfl rfl (stp_mapNew rfl rfl rfl hm (hp.ext' hx) hn) ?_
  rintro _ w1 u1
  have x1 : Ext w0 w1 := u1.ext hx hle
  (repeat (first
      | (guard_target =~ gU _; first
          | (guard_target =~ gU []; first | refine WU.nilk ?_ | refine WU.nil ?_)
          | refine WU.yld rfl rfl rfl (by first | (guard_target =~ gY (.move _); exact ze rfl) | (guard_target =~ gY (.assign _); exact yf rfl) | (guard_target =~ gY (.load _ _); (first| exact za rfl rfl|exact zb rfl)) | (guard_target =~ gY (.fieldAddr _ _ _); exact yt rfl) | (guard_target =~ gY (.nilCheck _); (first| exact zq rfl|exact zr rfl)) | (guard_target =~ gY (.extract _ _); exact ys rfl rfl) | (guard_target =~ gY (.typeAssert _ _ _ true); (first| exact ye rfl rfl|exact yd rfl rfl (by first | rfl | assumption)|exact yc rfl rfl)) | (guard_target =~ gY (.typeAssert _ _ _ false); exact yb rfl rfl) | (guard_target =~ gY (.makeInterface _ _); exact zd rfl rfl) | (guard_target =~ gY (.pick _ _ _); (first| exact zv rfl rfl|exact zu rfl rfl|exact zt rfl rfl rfl)) | (guard_target =~ gY (.binOp .neq _ _ _ _); (first| exact zj rfl rfl|exact zn rfl rfl|exact zm rfl rfl|exact zg rfl rfl|exact zh rfl rfl|exact zl rfl rfl|exact zf rfl rfl|exact zp rfl rfl|exact zk rfl rfl|exact zo rfl rfl|exact zi (by first | decide | assumption) rfl rfl)) | (guard_target =~ gY (.binOp .eql _ _ _ _); (first| exact yl rfl rfl|exact yp rfl rfl|exact yo rfl rfl|exact yi rfl rfl|exact yj rfl rfl|exact yn rfl rfl|exact yh rfl rfl|exact yr rfl rfl|exact ym rfl rfl|exact yq rfl rfl|exact yk (by first | decide | assumption) rfl rfl)) | (guard_target =~ gY (.unOp .not _ _); exact zs rfl) | (guard_target =~ gY (.binOp .lss _ _ _ _); exact zc rfl rfl) | (guard_target =~ gY (.binOp .leq _ _ _ _); exact yz rfl rfl) | (guard_target =~ gY (.binOp .gtr _ _ _ _); exact yv rfl rfl) | (guard_target =~ gY (.binOp .geq _ _ _ _); exact yu rfl rfl) | (guard_target =~ gY (.binOp .add _ _ _ _); exact ya rfl rfl (by omega)) | (guard_target =~ gY (.binOp .sub _ _ _ _); exact zw rfl rfl (by omega)) | (guard_target =~ gY (.call _); (first| exact yx rfl|exact yy rfl)) | (guard_target =~ gY (.build _ _); exact yg rfl rfl) | (guard_target =~ gY (.indexAddr _ _ _); exact yw rfl rfl (by omega) (by omega))) ?_
          | refine WU.skip rfl rfl rfl ?_)
      | (guard_target =~ gW (.seq _ _); refine W.seq ?_)
      | (guard_target =~ gW (.region _ _ false); refine W.reg ?_)
      | (guard_target =~ gW (.cond _ _ _); first | refine W.cond_t rfl ?_ | refine W.cond_f rfl ?_)
      | (guard_target =~ gW (.block _ _); refine W.block ?_)
      | (guard_target =~ gW .skip; refine W.skip ?_)
      | (guard_target =~ gW (.exit _); refine W.exit ?_)
      | (guard_target =~ gW .ret; refine W.ret ?_)
      | (guard_target =~ gT .normal; refine thn_normal ?_)
      | (guard_target =~ gT (.exit _); refine thn_exit ?_)
      | (guard_target =~ gT .ret; refine thn_ret ?_)
      | (guard_target =~ gI .normal; refine inb_normal ?_)
      | (guard_target =~ gI (.exit _); first | refine inb_hit ?_ | refine inb_miss rfl ?_)
      | (guard_target =~ gI .ret; refine inb_ret ?_)))
  refine WU.stp rfl rfl rfl (stp_invoke rfl rfl (c_Und_chan b w1)) ?_
  rintro _ _ ⟨rfl, rfl⟩
  (repeat (first
      | (guard_target =~ gU _; first
          | (guard_target =~ gU []; first | refine WU.nilk ?_ | refine WU.nil ?_)
          | refine WU.yld rfl rfl rfl (by first | (guard_target =~ gY (.move _); exact ze rfl) | (guard_target =~ gY (.assign _); exact yf rfl) | (guard_target =~ gY (.load _ _); (first| exact za rfl rfl|exact zb rfl)) | (guard_target =~ gY (.fieldAddr _ _ _); exact yt rfl) | (guard_target =~ gY (.nilCheck _); (first| exact zq rfl|exact zr rfl)) | (guard_target =~ gY (.extract _ _); exact ys rfl rfl) | (guard_target =~ gY (.typeAssert _ _ _ true); (first| exact ye rfl rfl|exact yd rfl rfl (by first | rfl | assumption)|exact yc rfl rfl)) | (guard_target =~ gY (.typeAssert _ _ _ false); exact yb rfl rfl) | (guard_target =~ gY (.makeInterface _ _); exact zd rfl rfl) | (guard_target =~ gY (.pick _ _ _); (first| exact zv rfl rfl|exact zu rfl rfl|exact zt rfl rfl rfl)) | (guard_target =~ gY (.binOp .neq _ _ _ _); (first| exact zj rfl rfl|exact zn rfl rfl|exact zm rfl rfl|exact zg rfl rfl|exact zh rfl rfl|exact zl rfl rfl|exact zf rfl rfl|exact zp rfl rfl|exact zk rfl rfl|exact zo rfl rfl|exact zi (by first | decide | assumption) rfl rfl)) | (guard_target =~ gY (.binOp .eql _ _ _ _); (first| exact yl rfl rfl|exact yp rfl rfl|exact yo rfl rfl|exact yi rfl rfl|exact yj rfl rfl|exact yn rfl rfl|exact yh rfl rfl|exact yr rfl rfl|exact ym rfl rfl|exact yq rfl rfl|exact yk (by first | decide | assumption) rfl rfl)) | (guard_target =~ gY (.unOp .not _ _); exact zs rfl) | (guard_target =~ gY (.binOp .lss _ _ _ _); exact zc rfl rfl) | (guard_target =~ gY (.binOp .leq _ _ _ _); exact yz rfl rfl) | (guard_target =~ gY (.binOp .gtr _ _ _ _); exact yv rfl rfl) | (guard_target =~ gY (.binOp .geq _ _ _ _); exact yu rfl rfl) | (guard_target =~ gY (.binOp .add _ _ _ _); exact ya rfl rfl (by omega)) | (guard_target =~ gY (.binOp .sub _ _ _ _); exact zw rfl rfl (by omega)) | (guard_target =~ gY (.call _); (first| exact yx rfl|exact yy rfl)) | (guard_target =~ gY (.build _ _); exact yg rfl rfl) | (guard_target =~ gY (.indexAddr _ _ _); exact yw rfl rfl (by omega) (by omega))) ?_
          | refine WU.skip rfl rfl rfl ?_)
      | (guard_target =~ gW (.seq _ _); refine W.seq ?_)
      | (guard_target =~ gW (.region _ _ false); refine W.reg ?_)
      | (guard_target =~ gW (.cond _ _ _); first | refine W.cond_t rfl ?_ | refine W.cond_f rfl ?_)
      | (guard_target =~ gW (.block _ _); refine W.block ?_)
      | (guard_target =~ gW .skip; refine W.skip ?_)
      | (guard_target =~ gW (.exit _); refine W.exit ?_)
      | (guard_target =~ gW .ret; refine W.ret ?_)
      | (guard_target =~ gT .normal; refine thn_normal ?_)
      | (guard_target =~ gT (.exit _); refine thn_exit ?_)
      | (guard_target =~ gT .ret; refine thn_ret ?_)
      | (guard_target =~ gI .normal; refine inb_normal ?_)
      | (guard_target =~ gI (.exit _); first | refine inb_hit ?_ | refine inb_miss rfl ?_)
      | (guard_target =~ gI .ret; refine inb_ret ?_)))
  exact fin1 (.inl rfl) rfl rfl ⟨.inl ⟨rfl, rfl⟩, x1⟩

set_option maxHeartbeats 1000000 in
theorem ct_mp_map {w0 w : World} {b r cc : Nat} {es : Array MapEntry}  (hp : Pl w0 b)  (hx : Ext w0 w) (hle : w0.heap.size ≤ r) (hm : Has w r (.map es cc)) (hn : NoKey w 64 ⟨b, 0, none⟩ es.toList) :
    Calls Tryz.prog 40 #[(.iface 64 (.pointer (some ⟨b, 0, none⟩))), .bool true, .map (some r)] w (Ret fun r w' => Rz r false ∧ Ext w0 w') := by
  refine W.enter (args := [(.iface 64 (.pointer (some ⟨b, 0, none⟩))), .bool true, .map (some r)]) Tryz.func40 rfl Tryz.ntmps40 rfl rfl ?_
  (repeat (first
      | (guard_target =~ gU _; first
          | (guard_target =~ gU []; first | refine WU.nilk ?_ | refine WU.nil ?_)
          | refine WU.yld rfl rfl rfl (by first | (guard_target =~ gY (.move _); exact ze rfl) | (guard_target =~ gY (.assign _); exact yf rfl) | (guard_target =~ gY (.load _ _); (first| exact za rfl rfl|exact zb rfl)) | (guard_target =~ gY (.fieldAddr _ _ _); exact yt rfl) | (guard_target =~ gY (.nilCheck _); (first| exact zq rfl|exact zr rfl)) | (guard_target =~ gY (.extract _ _); exact ys rfl rfl) | (guard_target =~ gY (.typeAssert _ _ _ true); (first| exact ye rfl rfl|exact yd rfl rfl (by first | rfl | assumption)|exact yc rfl rfl)) | (guard_target =~ gY (.typeAssert _ _ _ false); exact yb rfl rfl) | (guard_target =~ gY (.makeInterface _ _); exact zd rfl rfl) | (guard_target =~ gY (.pick _ _ _); (first| exact zv rfl rfl|exact zu rfl rfl|exact zt rfl rfl rfl)) | (guard_target =~ gY (.binOp .neq _ _ _ _); (first| exact zj rfl rfl|exact zn rfl rfl|exact zm rfl rfl|exact zg rfl rfl|exact zh rfl rfl|exact zl rfl rfl|exact zf rfl rfl|exact zp rfl rfl|exact zk rfl rfl|exact zo rfl rfl|exact zi (by first | decide | assumption) rfl rfl)) | (guard_target =~ gY (.binOp .eql _ _ _ _); (first| exact yl rfl rfl|exact yp rfl rfl|exact yo rfl rfl|exact yi rfl rfl|exact yj rfl rfl|exact yn rfl rfl|exact yh rfl rfl|exact yr rfl rfl|exact ym rfl rfl|exact yq rfl rfl|exact yk (by first | decide | assumption) rfl rfl)) | (guard_target =~ gY (.unOp .not _ _); exact zs rfl) | (guard_target =~ gY (.binOp .lss _ _ _ _); exact zc rfl rfl) | (guard_target =~ gY (.binOp .leq _ _ _ _); exact yz rfl rfl) | (guard_target =~ gY (.binOp .gtr _ _ _ _); exact yv rfl rfl) | (guard_target =~ gY (.binOp .geq _ _ _ _); exact yu rfl rfl) | (guard_target =~ gY (.binOp .add _ _ _ _); exact ya rfl rfl (by omega)) | (guard_target =~ gY (.binOp .sub _ _ _ _); exact zw rfl rfl (by omega)) | (guard_target =~ gY (.call _); (first| exact yx rfl|exact yy rfl)) | (guard_target =~ gY (.build _ _); exact yg rfl rfl) | (guard_target =~ gY (.indexAddr _ _ _); exact yw rfl rfl (by omega) (by omega))) ?_
          | refine WU.skip rfl rfl rfl ?_)
      | (guard_target =~ gW (.seq _ _); refine W.seq ?_)
      | (guard_target =~ gW (.region _ _ false); refine W.reg ?_)
      | (guard_target =~ gW (.cond _ _ _); first | refine W.cond_t rfl ?_ | refine W.cond_f rfl ?_)
      | (guard_target =~ gW (.block _ _); refine W.block ?_)
      | (guard_target =~ gW .skip; refine W.skip ?_)
      | (guard_target =~ gW (.exit _); refine W.exit ?_)
      | (guard_target =~ gW .ret; refine W.ret ?_)
      | (guard_target =~ gT .normal; refine thn_normal ?_)
      | (guard_target =~ gT (.exit _); refine thn_exit ?_)
      | (guard_target =~ gT .ret; refine thn_ret ?_)
      | (guard_target =~ gI .normal; refine inb_normal ?_)
      | (guard_target =~ gI (.exit _); first | refine inb_hit ?_ | refine inb_miss rfl ?_)
      | (guard_target =~ gI .ret; refine inb_ret ?_)))
  refine WU.stp rfl rfl rfl (stp_lookup_no rfl rfl hm (hp.ext' hx) hn) ?_
  rintro _ _ ⟨rfl, rfl⟩
  (repeat (first
      | (guard_target =~ gU _; first
          | (guard_target =~ gU []; first | refine WU.nilk ?_ | refine WU.nil ?_)
          | refine WU.yld rfl rfl rfl (by first | (guard_target =~ gY (.move _); exact ze rfl) | (guard_target =~ gY (.assign _); exact yf rfl) | (guard_target =~ gY (.load _ _); (first| exact za rfl rfl|exact zb rfl)) | (guard_target =~ gY (.fieldAddr _ _ _); exact yt rfl) | (guard_target =~ gY (.nilCheck _); (first| exact zq rfl|exact zr rfl)) | (guard_target =~ gY (.extract _ _); exact ys rfl rfl) | (guard_target =~ gY (.typeAssert _ _ _ true); (first| exact ye rfl rfl|exact yd rfl rfl (by first | rfl | assumption)|exact yc rfl rfl)) | (guard_target =~ gY (.typeAssert _ _ _ false); exact yb rfl rfl) | (guard_target =~ gY (.makeInterface _ _); exact zd rfl rfl) | (guard_target =~ gY (.pick _ _ _); (first| exact zv rfl rfl|exact zu rfl rfl|exact zt rfl rfl rfl)) | (guard_target =~ gY (.binOp .neq _ _ _ _); (first| exact zj rfl rfl|exact zn rfl rfl|exact zm rfl rfl|exact zg rfl rfl|exact zh rfl rfl|exact zl rfl rfl|exact zf rfl rfl|exact zp rfl rfl|exact zk rfl rfl|exact zo rfl rfl|exact zi (by first | decide | assumption) rfl rfl)) | (guard_target =~ gY (.binOp .eql _ _ _ _); (first| exact yl rfl rfl|exact yp rfl rfl|exact yo rfl rfl|exact yi rfl rfl|exact yj rfl rfl|exact yn rfl rfl|exact yh rfl rfl|exact yr rfl rfl|exact ym rfl rfl|exact yq rfl rfl|exact yk (by first | decide | assumption) rfl rfl)) | (guard_target =~ gY (.unOp .not _ _); exact zs rfl) | (guard_target =~ gY (.binOp .lss _ _ _ _); exact zc rfl rfl) | (guard_target =~ gY (.binOp .leq _ _ _ _); exact yz rfl rfl) | (guard_target =~ gY (.binOp .gtr _ _ _ _); exact yv rfl rfl) | (guard_target =~ gY (.binOp .geq _ _ _ _); exact yu rfl rfl) | (guard_target =~ gY (.binOp .add _ _ _ _); exact ya rfl rfl (by omega)) | (guard_target =~ gY (.binOp .sub _ _ _ _); exact zw rfl rfl (by omega)) | (guard_target =~ gY (.call _); (first| exact yx rfl|exact yy rfl)) | (guard_target =~ gY (.build _ _); exact yg rfl rfl) | (guard_target =~ gY (.indexAddr _ _ _); exact yw rfl rfl (by omega) (by omega))) ?_
          | refine WU.skip rfl rfl rfl ?_)
      | (guard_target =~ gW (.seq _ _); refine W.seq ?_)
      | (guard_target =~ gW (.region _ _ false); refine W.reg ?_)
      | (guard_target =~ gW (.cond _ _ _); first | refine W.cond_t rfl ?_ | refine W.cond_f rfl ?_)
      | (guard_target =~ gW (.block _ _); refine W.block ?_)
      | (guard_target =~ gW .skip; refine W.skip ?_)
      | (guard_target =~ gW (.exit _); refine W.exit ?_)
      | (guard_target =~ gW .ret; refine W.ret ?_)
      | (guard_target =~ gT .normal; refine thn_normal ?_)
      | (guard_target =~ gT (.exit _); refine thn_exit ?_)
      | (guard_target =~ gT .ret; refine thn_ret ?_)
      | (guard_target =~ gI .normal; refine inb_normal ?_)
      | (guard_target =~ gI (.exit _); first | refine inb_hit ?_ | refine inb_miss rfl ?_)
      | (guard_target =~ gI .ret; refine inb_ret ?_)))
  refine WU.stp0 rfl rfl (stp_mapNew rfl rfl rfl hm (hp.ext' hx) hn) ?_
  rintro _ w1 u1
  have x1 : Ext w0 w1 := u1.ext hx hle
  (repeat (first
      | (guard_target =~ gU _; first
          | (guard_target =~ gU []; first | refine WU.nilk ?_ | refine WU.nil ?_)
          | refine WU.yld rfl rfl rfl (by first | (guard_target =~ gY (.move _); exact ze rfl) | (guard_target =~ gY (.assign _); exact yf rfl) | (guard_target =~ gY (.load _ _); (first| exact za rfl rfl|exact zb rfl)) | (guard_target =~ gY (.fieldAddr _ _ _); exact yt rfl) | (guard_target =~ gY (.nilCheck _); (first| exact zq rfl|exact zr rfl)) | (guard_target =~ gY (.extract _ _); exact ys rfl rfl) | (guard_target =~ gY (.typeAssert _ _ _ true); (first| exact ye rfl rfl|exact yd rfl rfl (by first | rfl | assumption)|exact yc rfl rfl)) | (guard_target =~ gY (.typeAssert _ _ _ false); exact yb rfl rfl) | (guard_target =~ gY (.makeInterface _ _); exact zd rfl rfl) | (guard_target =~ gY (.pick _ _ _); (first| exact zv rfl rfl|exact zu rfl rfl|exact zt rfl rfl rfl)) | (guard_target =~ gY (.binOp .neq _ _ _ _); (first| exact zj rfl rfl|exact zn rfl rfl|exact zm rfl rfl|exact zg rfl rfl|exact zh rfl rfl|exact zl rfl rfl|exact zf rfl rfl|exact zp rfl rfl|exact zk rfl rfl|exact zo rfl rfl|exact zi (by first | decide | assumption) rfl rfl)) | (guard_target =~ gY (.binOp .eql _ _ _ _); (first| exact yl rfl rfl|exact yp rfl rfl|exact yo rfl rfl|exact yi rfl rfl|exact yj rfl rfl|exact yn rfl rfl|exact yh rfl rfl|exact yr rfl rfl|exact ym rfl rfl|exact yq rfl rfl|exact yk (by first | decide | assumption) rfl rfl)) | (guard_target =~ gY (.unOp .not _ _); exact zs rfl) | (guard_target =~ gY (.binOp .lss _ _ _ _); exact zc rfl rfl) | (guard_target =~ gY (.binOp .leq _ _ _ _); exact yz rfl rfl) | (guard_target =~ gY (.binOp .gtr _ _ _ _); exact yv rfl rfl) | (guard_target =~ gY (.binOp .geq _ _ _ _); exact yu rfl rfl) | (guard_target =~ gY (.binOp .add _ _ _ _); exact ya rfl rfl (by omega)) | (guard_target =~ gY (.binOp .sub _ _ _ _); exact zw rfl rfl (by omega)) | (guard_target =~ gY (.call _); (first| exact yx rfl|exact yy rfl)) | (guard_target =~ gY (.build _ _); exact yg rfl rfl) | (guard_target =~ gY (.indexAddr _ _ _); exact yw rfl rfl (by omega) (by omega))) ?_
          | refine WU.skip rfl rfl rfl ?_)
      | (guard_target =~ gW (.seq _ _); refine W.seq ?_)
      | (guard_target =~ gW (.region _ _ false); refine W.reg ?_)
      | (guard_target =~ gW (.cond _ _ _); first | refine W.cond_t rfl ?_ | refine W.cond_f rfl ?_)
      | (guard_target =~ gW (.block _ _); refine W.block ?_)
      | (guard_target =~ gW .skip; refine W.skip ?_)
      | (guard_target =~ gW (.exit _); refine W.exit ?_)
      | (guard_target =~ gW .ret; refine W.ret ?_)
      | (guard_target =~ gT .normal; refine thn_normal ?_)
      | (guard_target =~ gT (.exit _); refine thn_exit ?_)
      | (guard_target =~ gT .ret; refine thn_ret ?_)
      | (guard_target =~ gI .normal; refine inb_normal ?_)
      | (guard_target =~ gI (.exit _); first | refine inb_hit ?_ | refine inb_miss rfl ?_)
      | (guard_target =~ gI .ret; refine inb_ret ?_)))
  refine WU.stp rfl rfl rfl (stp_invoke rfl rfl (c_Und_map b w1)) ?_
  rintro _ _ ⟨rfl, rfl⟩
  (repeat (first
      | (guard_target =~ gU _; first
          | (guard_target =~ gU []; first | refine WU.nilk ?_ | refine WU.nil ?_)
          | refine WU.yld rfl rfl rfl (by first | (guard_target =~ gY (.move _); exact ze rfl) | (guard_target =~ gY (.assign _); exact yf rfl) | (guard_target =~ gY (.load _ _); (first| exact za rfl rfl|exact zb rfl)) | (guard_target =~ gY (.fieldAddr _ _ _); exact yt rfl) | (guard_target =~ gY (.nilCheck _); (first| exact zq rfl|exact zr rfl)) | (guard_target =~ gY (.extract _ _); exact ys rfl rfl) | (guard_target =~ gY (.typeAssert _ _ _ true); (first| exact ye rfl rfl|exact yd rfl rfl (by first | rfl | assumption)|exact yc rfl rfl)) | (guard_target =~ gY (.typeAssert _ _ _ false); exact yb rfl rfl) | (guard_target =~ gY (.makeInterface _ _); exact zd rfl rfl) | (guard_target =~ gY (.pick _ _ _); (first| exact zv rfl rfl|exact zu rfl rfl|exact zt rfl rfl rfl)) | (guard_target =~ gY (.binOp .neq _ _ _ _); (first| exact zj rfl rfl|exact zn rfl rfl|exact zm rfl rfl|exact zg rfl rfl|exact zh rfl rfl|exact zl rfl rfl|exact zf rfl rfl|exact zp rfl rfl|exact zk rfl rfl|exact zo rfl rfl|exact zi (by first | decide | assumption) rfl rfl)) | (guard_target =~ gY (.binOp .eql _ _ _ _); (first| exact yl rfl rfl|exact yp rfl rfl|exact yo rfl rfl|exact yi rfl rfl|exact yj rfl rfl|exact yn rfl rfl|exact yh rfl rfl|exact yr rfl rfl|exact ym rfl rfl|exact yq rfl rfl|exact yk (by first | decide | assumption) rfl rfl)) | (guard_target =~ gY (.unOp .not _ _); exact zs rfl) | (guard_target =~ gY (.binOp .lss _ _ _ _); exact zc rfl rfl) | (guard_target =~ gY (.binOp .leq _ _ _ _); exact yz rfl rfl) | (guard_target =~ gY (.binOp .gtr _ _ _ _); exact yv rfl rfl) | (guard_target =~ gY (.binOp .geq _ _ _ _); exact yu rfl rfl) | (guard_target =~ gY (.binOp .add _ _ _ _); exact ya rfl rfl (by omega)) | (guard_target =~ gY (.binOp .sub _ _ _ _); exact zw rfl rfl (by omega)) | (guard_target =~ gY (.call _); (first| exact yx rfl|exact yy rfl)) | (guard_target =~ gY (.build _ _); exact yg rfl rfl) | (guard_target =~ gY (.indexAddr _ _ _); exact yw rfl rfl (by omega) (by omega))) ?_
          | refine WU.skip rfl rfl rfl ?_)
      | (guard_target =~ gW (.seq _ _); refine W.seq ?_)
      | (guard_target =~ gW (.region _ _ false); refine W.reg ?_)
      | (guard_target =~ gW (.cond _ _ _); first | refine W.cond_t rfl ?_ | refine W.cond_f rfl ?_)
      | (guard_target =~ gW (.block _ _); refine W.block ?_)
      | (guard_target =~ gW .skip; refine W.skip ?_)
      | (guard_target =~ gW (.exit _); refine W.exit ?_)
      | (guard_target =~ gW .ret; refine W.ret ?_)
      | (guard_target =~ gT .normal; refine thn_normal ?_)
      | (guard_target =~ gT (.exit _); refine thn_exit ?_)
      | (guard_target =~ gT .ret; refine thn_ret ?_)
      | (guard_target =~ gI .normal; refine inb_normal ?_)
      | (guard_target =~ gI (.exit _); first | refine inb_hit ?_ | refine inb_miss rfl ?_)
      | (guard_target =~ gI .ret; refine inb_ret ?_)))
  refine WU.stp rfl rfl rfl (stp_call rfl (c_typeErrorf _ _ _ _ w1)) ?_
  rintro _ w2 ⟨⟨k, rfl⟩, x2⟩
  (repeat (first
      | (guard_target =~ gU _; first
          | (guard_target =~ gU []; first | refine WU.nilk ?_ | refine WU.nil ?_)
          | refine WU.yld rfl rfl rfl (by first | (guard_target =~ gY (.move _); exact ze rfl) | (guard_target =~ gY (.assign _); exact yf rfl) | (guard_target =~ gY (.load _ _); (first| exact za rfl rfl|exact zb rfl)) | (guard_target =~ gY (.fieldAddr _ _ _); exact yt rfl) | (guard_target =~ gY (.nilCheck _); (first| exact zq rfl|exact zr rfl)) | (guard_target =~ gY (.extract _ _); exact ys rfl rfl) | (guard_target =~ gY (.typeAssert _ _ _ true); (first| exact ye rfl rfl|exact yd rfl rfl (by first | rfl | assumption)|exact yc rfl rfl)) | (guard_target =~ gY (.typeAssert _ _ _ false); exact yb rfl rfl) | (guard_target =~ gY (.makeInterface _ _); exact zd rfl rfl) | (guard_target =~ gY (.pick _ _ _); (first| exact zv rfl rfl|exact zu rfl rfl|exact zt rfl rfl rfl)) | (guard_target =~ gY (.binOp .neq _ _ _ _); (first| exact zj rfl rfl|exact zn rfl rfl|exact zm rfl rfl|exact zg rfl rfl|exact zh rfl rfl|exact zl rfl rfl|exact zf rfl rfl|exact zp rfl rfl|exact zk rfl rfl|exact zo rfl rfl|exact zi (by first | decide | assumption) rfl rfl)) | (guard_target =~ gY (.binOp .eql _ _ _ _); (first| exact yl rfl rfl|exact yp rfl rfl|exact yo rfl rfl|exact yi rfl rfl|exact yj rfl rfl|exact yn rfl rfl|exact yh rfl rfl|exact yr rfl rfl|exact ym rfl rfl|exact yq rfl rfl|exact yk (by first | decide | assumption) rfl rfl)) | (guard_target =~ gY (.unOp .not _ _); exact zs rfl) | (guard_target =~ gY (.binOp .lss _ _ _ _); exact zc rfl rfl) | (guard_target =~ gY (.binOp .leq _ _ _ _); exact yz rfl rfl) | (guard_target =~ gY (.binOp .gtr _ _ _ _); exact yv rfl rfl) | (guard_target =~ gY (.binOp .geq _ _ _ _); exact yu rfl rfl) | (guard_target =~ gY (.binOp .add _ _ _ _); exact ya rfl rfl (by omega)) | (guard_target =~ gY (.binOp .sub _ _ _ _); exact zw rfl rfl (by omega)) | (guard_target =~ gY (.call _); (first| exact yx rfl|exact yy rfl)) | (guard_target =~ gY (.build _ _); exact yg rfl rfl) | (guard_target =~ gY (.indexAddr _ _ _); exact yw rfl rfl (by omega) (by omega))) ?_
          | refine WU.skip rfl rfl rfl ?_)
      | (guard_target =~ gW (.seq _ _); refine W.seq ?_)
      | (guard_target =~ gW (.region _ _ false); refine W.reg ?_)
      | (guard_target =~ gW (.cond _ _ _); first | refine W.cond_t rfl ?_ | refine W.cond_f rfl ?_)
      | (guard_target =~ gW (.block _ _); refine W.block ?_)
      | (guard_target =~ gW .skip; refine W.skip ?_)
      | (guard_target =~ gW (.exit _); refine W.exit ?_)
      | (guard_target =~ gW .ret; refine W.ret ?_)
      | (guard_target =~ gT .normal; refine thn_normal ?_)
      | (guard_target =~ gT (.exit _); refine thn_exit ?_)
      | (guard_target =~ gT .ret; refine thn_ret ?_)
      | (guard_target =~ gI .normal; refine inb_normal ?_)
      | (guard_target =~ gI (.exit _); first | refine inb_hit ?_ | refine inb_miss rfl ?_)
      | (guard_target =~ gI .ret; refine inb_ret ?_)))
  exact fin1 (.inl rfl) rfl rfl ⟨.inr ⟨rfl, _, rfl⟩, x1.trans x2⟩

set_option maxHeartbeats 1000000 in
theorem ct_nl_basic {w0 : World} {b : Nat} {k i : Int} {nm} (hp : Pl w0 b) (h1 : Has w0 b (.cells #[.int .i64 k, .int .i64 i, .string nm] 81)) (hk : 1 ≤ k ∧ k ≤ 18) :
    Calls Tryz.prog 40 #[(.iface 50 (.pointer (some ⟨b, 0, none⟩))), .bool true, .map none] w0 (Ret fun r w' => Rz r true ∧ Ext w0 w') := by
  refine W.enter (args := [(.iface 50 (.pointer (some ⟨b, 0, none⟩))), .bool true, .map none]) Tryz.func40 rfl Tryz.ntmps40 rfl rfl ?_
  (repeat (first
      | (guard_target =~ gU _; first
          | (guard_target =~ gU []; first | refine WU.nilk ?_ | refine WU.nil ?_)
          | refine WU.yld rfl rfl rfl (by first | (guard_target =~ gY (.move _); exact ze rfl) | (guard_target =~ gY (.assign _); exact yf rfl) | (guard_target =~ gY (.load _ _); (first| exact za rfl rfl|exact zb rfl)) | (guard_target =~ gY (.fieldAddr _ _ _); exact yt rfl) | (guard_target =~ gY (.nilCheck _); (first| exact zq rfl|exact zr rfl)) | (guard_target =~ gY (.extract _ _); exact ys rfl rfl) | (guard_target =~ gY (.typeAssert _ _ _ true); (first| exact ye rfl rfl|exact yd rfl rfl (by first | rfl | assumption)|exact yc rfl rfl)) | (guard_target =~ gY (.typeAssert _ _ _ false); exact yb rfl rfl) | (guard_target =~ gY (.makeInterface _ _); exact zd rfl rfl) | (guard_target =~ gY (.pick _ _ _); (first| exact zv rfl rfl|exact zu rfl rfl|exact zt rfl rfl rfl)) | (guard_target =~ gY (.binOp .neq _ _ _ _); (first| exact zj rfl rfl|exact zn rfl rfl|exact zm rfl rfl|exact zg rfl rfl|exact zh rfl rfl|exact zl rfl rfl|exact zf rfl rfl|exact zp rfl rfl|exact zk rfl rfl|exact zo rfl rfl|exact zi (by first | decide | assumption) rfl rfl)) | (guard_target =~ gY (.binOp .eql _ _ _ _); (first| exact yl rfl rfl|exact yp rfl rfl|exact yo rfl rfl|exact yi rfl rfl|exact yj rfl rfl|exact yn rfl rfl|exact yh rfl rfl|exact yr rfl rfl|exact ym rfl rfl|exact yq rfl rfl|exact yk (by first | decide | assumption) rfl rfl)) | (guard_target =~ gY (.unOp .not _ _); exact zs rfl) | (guard_target =~ gY (.binOp .lss _ _ _ _); exact zc rfl rfl) | (guard_target =~ gY (.binOp .leq _ _ _ _); exact yz rfl rfl) | (guard_target =~ gY (.binOp .gtr _ _ _ _); exact yv rfl rfl) | (guard_target =~ gY (.binOp .geq _ _ _ _); exact yu rfl rfl) | (guard_target =~ gY (.binOp .add _ _ _ _); exact ya rfl rfl (by omega)) | (guard_target =~ gY (.binOp .sub _ _ _ _); exact zw rfl rfl (by omega)) | (guard_target =~ gY (.call _); (first| exact yx rfl|exact yy rfl)) | (guard_target =~ gY (.build _ _); exact yg rfl rfl) | (guard_target =~ gY (.indexAddr _ _ _); exact yw rfl rfl (by omega) (by omega))) ?_
          | refine WU.skip rfl rfl rfl ?_)
      | (guard_target =~ gW (.seq _ _); refine W.seq ?_)
      | (guard_target =~ gW (.region _ _ false); refine W.reg ?_)
      | (guard_target =~ gW (.cond _ _ _); first | refine W.cond_t rfl ?_ | refine W.cond_f rfl ?_)
      | (guard_target =~ gW (.block _ _); refine W.block ?_)
      | (guard_target =~ gW .skip; refine W.skip ?_)
      | (guard_target =~ gW (.exit _); refine W.exit ?_)
      | (guard_target =~ gW .ret; refine W.ret ?_)
      | (guard_target =~ gT .normal; refine thn_normal ?_)
      | (guard_target =~ gT (.exit _); refine thn_exit ?_)
      | (guard_target =~ gT .ret; refine thn_ret ?_)
      | (guard_target =~ gI .normal; refine inb_normal ?_)
      | (guard_target =~ gI (.exit _); first | refine inb_hit ?_ | refine inb_miss rfl ?_)
      | (guard_target =~ gI .ret; refine inb_ret ?_)))
  refine WU.stp rfl rfl rfl (stp_lookup_nil rfl rfl) ?_
  rintro _ _ ⟨rfl, rfl⟩
  (repeat (first
      | (guard_target =~ gU _; first
          | (guard_target =~ gU []; first | refine WU.nilk ?_ | refine WU.nil ?_)
          | refine WU.yld rfl rfl rfl (by first | (guard_target =~ gY (.move _); exact ze rfl) | (guard_target =~ gY (.assign _); exact yf rfl) | (guard_target =~ gY (.load _ _); (first| exact za rfl rfl|exact zb rfl)) | (guard_target =~ gY (.fieldAddr _ _ _); exact yt rfl) | (guard_target =~ gY (.nilCheck _); (first| exact zq rfl|exact zr rfl)) | (guard_target =~ gY (.extract _ _); exact ys rfl rfl) | (guard_target =~ gY (.typeAssert _ _ _ true); (first| exact ye rfl rfl|exact yd rfl rfl (by first | rfl | assumption)|exact yc rfl rfl)) | (guard_target =~ gY (.typeAssert _ _ _ false); exact yb rfl rfl) | (guard_target =~ gY (.makeInterface _ _); exact zd rfl rfl) | (guard_target =~ gY (.pick _ _ _); (first| exact zv rfl rfl|exact zu rfl rfl|exact zt rfl rfl rfl)) | (guard_target =~ gY (.binOp .neq _ _ _ _); (first| exact zj rfl rfl|exact zn rfl rfl|exact zm rfl rfl|exact zg rfl rfl|exact zh rfl rfl|exact zl rfl rfl|exact zf rfl rfl|exact zp rfl rfl|exact zk rfl rfl|exact zo rfl rfl|exact zi (by first | decide | assumption) rfl rfl)) | (guard_target =~ gY (.binOp .eql _ _ _ _); (first| exact yl rfl rfl|exact yp rfl rfl|exact yo rfl rfl|exact yi rfl rfl|exact yj rfl rfl|exact yn rfl rfl|exact yh rfl rfl|exact yr rfl rfl|exact ym rfl rfl|exact yq rfl rfl|exact yk (by first | decide | assumption) rfl rfl)) | (guard_target =~ gY (.unOp .not _ _); exact zs rfl) | (guard_target =~ gY (.binOp .lss _ _ _ _); exact zc rfl rfl) | (guard_target =~ gY (.binOp .leq _ _ _ _); exact yz rfl rfl) | (guard_target =~ gY (.binOp .gtr _ _ _ _); exact yv rfl rfl) | (guard_target =~ gY (.binOp .geq _ _ _ _); exact yu rfl rfl) | (guard_target =~ gY (.binOp .add _ _ _ _); exact ya rfl rfl (by omega)) | (guard_target =~ gY (.binOp .sub _ _ _ _); exact zw rfl rfl (by omega)) | (guard_target =~ gY (.call _); (first| exact yx rfl|exact yy rfl)) | (guard_target =~ gY (.build _ _); exact yg rfl rfl) | (guard_target =~ gY (.indexAddr _ _ _); exact yw rfl rfl (by omega) (by omega))) ?_
          | refine WU.skip rfl rfl rfl ?_)
      | (guard_target =~ gW (.seq _ _); refine W.seq ?_)
      | (guard_target =~ gW (.region _ _ false); refine W.reg ?_)
      | (guard_target =~ gW (.cond _ _ _); first | refine W.cond_t rfl ?_ | refine W.cond_f rfl ?_)
      | (guard_target =~ gW (.block _ _); refine W.block ?_)
      | (guard_target =~ gW .skip; refine W.skip ?_)
      | (guard_target =~ gW (.exit _); refine W.exit ?_)
      | (guard_target =~ gW .ret; refine W.ret ?_)
      | (guard_target =~ gT .normal; refine thn_normal ?_)
      | (guard_target =~ gT (.exit _); refine thn_exit ?_)
      | (guard_target =~ gT .ret; refine thn_ret ?_)
      | (guard_target =~ gI .normal; refine inb_normal ?_)
      | (guard_target =~ gI (.exit _); first | refine inb_hit ?_ | refine inb_miss rfl ?_)
      | (guard_target =~ gI .ret; refine inb_ret ?_)))
  refine WU.stp rfl rfl rfl stp_makeMap ?_
  rintro _ wm ⟨r, rfl, nm1⟩
  have hle : w0.heap.size ≤ r := by have := nm1.num; omega
  (repeat (first
      | (guard_target =~ gU _; first
          | (guard_target =~ gU []; first | refine WU.nilk ?_ | refine WU.nil ?_)
          | refine WU.yld rfl rfl rfl (by first | (guard_target =~ gY (.move _); exact ze rfl) | (guard_target =~ gY (.assign _); exact yf rfl) | (guard_target =~ gY (.load _ _); (first| exact za rfl rfl|exact zb rfl)) | (guard_target =~ gY (.fieldAddr _ _ _); exact yt rfl) | (guard_target =~ gY (.nilCheck _); (first| exact zq rfl|exact zr rfl)) | (guard_target =~ gY (.extract _ _); exact ys rfl rfl) | (guard_target =~ gY (.typeAssert _ _ _ true); (first| exact ye rfl rfl|exact yd rfl rfl (by first | rfl | assumption)|exact yc rfl rfl)) | (guard_target =~ gY (.typeAssert _ _ _ false); exact yb rfl rfl) | (guard_target =~ gY (.makeInterface _ _); exact zd rfl rfl) | (guard_target =~ gY (.pick _ _ _); (first| exact zv rfl rfl|exact zu rfl rfl|exact zt rfl rfl rfl)) | (guard_target =~ gY (.binOp .neq _ _ _ _); (first| exact zj rfl rfl|exact zn rfl rfl|exact zm rfl rfl|exact zg rfl rfl|exact zh rfl rfl|exact zl rfl rfl|exact zf rfl rfl|exact zp rfl rfl|exact zk rfl rfl|exact zo rfl rfl|exact zi (by first | decide | assumption) rfl rfl)) | (guard_target =~ gY (.binOp .eql _ _ _ _); (first| exact yl rfl rfl|exact yp rfl rfl|exact yo rfl rfl|exact yi rfl rfl|exact yj rfl rfl|exact yn rfl rfl|exact yh rfl rfl|exact yr rfl rfl|exact ym rfl rfl|exact yq rfl rfl|exact yk (by first | decide | assumption) rfl rfl)) | (guard_target =~ gY (.unOp .not _ _); exact zs rfl) | (guard_target =~ gY (.binOp .lss _ _ _ _); exact zc rfl rfl) | (guard_target =~ gY (.binOp .leq _ _ _ _); exact yz rfl rfl) | (guard_target =~ gY (.binOp .gtr _ _ _ _); exact yv rfl rfl) | (guard_target =~ gY (.binOp .geq _ _ _ _); exact yu rfl rfl) | (guard_target =~ gY (.binOp .add _ _ _ _); exact ya rfl rfl (by omega)) | (guard_target =~ gY (.binOp .sub _ _ _ _); exact zw rfl rfl (by omega)) | (guard_target =~ gY (.call _); (first| exact yx rfl|exact yy rfl)) | (guard_target =~ gY (.build _ _); exact yg rfl rfl) | (guard_target =~ gY (.indexAddr _ _ _); exact yw rfl rfl (by omega) (by omega))) ?_
          | refine WU.skip rfl rfl rfl ?_)
      | (guard_target =~ gW (.seq _ _); refine W.seq ?_)
      | (guard_target =~ gW (.region _ _ false); refine W.reg ?_)
      | (guard_target =~ gW (.cond _ _ _); first | refine W.cond_t rfl ?_ | refine W.cond_f rfl ?_)
      | (guard_target =~ gW (.block _ _); refine W.block ?_)
      | (guard_target =~ gW .skip; refine W.skip ?_)
      | (guard_target =~ gW (.exit _); refine W.exit ?_)
      | (guard_target =~ gW .ret; refine W.ret ?_)
      | (guard_target =~ gT .normal; refine thn_normal ?_)
      | (guard_target =~ gT (.exit _); refine thn_exit ?_)
      | (guard_target =~ gT .ret; refine thn_ret ?_)
      | (guard_target =~ gI .normal; refine inb_normal ?_)
      | (guard_target =~ gI (.exit _); first | refine inb_hit ?_ | refine inb_miss rfl ?_)
      | (guard_target =~ gI .ret; refine inb_ret ?_)))
  refine WU.stp0 rfl rfl (stp_mapNew rfl rfl rfl nm1.has (hp.ext' nm1.ext) (by intro m hm; cases hm)) ?_
  rintro _ w1 u1
  have x1 : Ext w0 w1 := u1.ext nm1.ext hle
  (repeat (first
      | (guard_target =~ gU _; first
          | (guard_target =~ gU []; first | refine WU.nilk ?_ | refine WU.nil ?_)
          | refine WU.yld rfl rfl rfl (by first | (guard_target =~ gY (.move _); exact ze rfl) | (guard_target =~ gY (.assign _); exact yf rfl) | (guard_target =~ gY (.load _ _); (first| exact za rfl rfl|exact zb rfl)) | (guard_target =~ gY (.fieldAddr _ _ _); exact yt rfl) | (guard_target =~ gY (.nilCheck _); (first| exact zq rfl|exact zr rfl)) | (guard_target =~ gY (.extract _ _); exact ys rfl rfl) | (guard_target =~ gY (.typeAssert _ _ _ true); (first| exact ye rfl rfl|exact yd rfl rfl (by first | rfl | assumption)|exact yc rfl rfl)) | (guard_target =~ gY (.typeAssert _ _ _ false); exact yb rfl rfl) | (guard_target =~ gY (.makeInterface _ _); exact zd rfl rfl) | (guard_target =~ gY (.pick _ _ _); (first| exact zv rfl rfl|exact zu rfl rfl|exact zt rfl rfl rfl)) | (guard_target =~ gY (.binOp .neq _ _ _ _); (first| exact zj rfl rfl|exact zn rfl rfl|exact zm rfl rfl|exact zg rfl rfl|exact zh rfl rfl|exact zl rfl rfl|exact zf rfl rfl|exact zp rfl rfl|exact zk rfl rfl|exact zo rfl rfl|exact zi (by first | decide | assumption) rfl rfl)) | (guard_target =~ gY (.binOp .eql _ _ _ _); (first| exact yl rfl rfl|exact yp rfl rfl|exact yo rfl rfl|exact yi rfl rfl|exact yj rfl rfl|exact yn rfl rfl|exact yh rfl rfl|exact yr rfl rfl|exact ym rfl rfl|exact yq rfl rfl|exact yk (by first | decide | assumption) rfl rfl)) | (guard_target =~ gY (.unOp .not _ _); exact zs rfl) | (guard_target =~ gY (.binOp .lss _ _ _ _); exact zc rfl rfl) | (guard_target =~ gY (.binOp .leq _ _ _ _); exact yz rfl rfl) | (guard_target =~ gY (.binOp .gtr _ _ _ _); exact yv rfl rfl) | (guard_target =~ gY (.binOp .geq _ _ _ _); exact yu rfl rfl) | (guard_target =~ gY (.binOp .add _ _ _ _); exact ya rfl rfl (by omega)) | (guard_target =~ gY (.binOp .sub _ _ _ _); exact zw rfl rfl (by omega)) | (guard_target =~ gY (.call _); (first| exact yx rfl|exact yy rfl)) | (guard_target =~ gY (.build _ _); exact yg rfl rfl) | (guard_target =~ gY (.indexAddr _ _ _); exact yw rfl rfl (by omega) (by omega))) ?_
          | refine WU.skip rfl rfl rfl ?_)
      | (guard_target =~ gW (.seq _ _); refine W.seq ?_)
      | (guard_target =~ gW (.region _ _ false); refine W.reg ?_)
      | (guard_target =~ gW (.cond _ _ _); first | refine W.cond_t rfl ?_ | refine W.cond_f rfl ?_)
      | (guard_target =~ gW (.block _ _); refine W.block ?_)
      | (guard_target =~ gW .skip; refine W.skip ?_)
      | (guard_target =~ gW (.exit _); refine W.exit ?_)
      | (guard_target =~ gW .ret; refine W.ret ?_)
      | (guard_target =~ gT .normal; refine thn_normal ?_)
      | (guard_target =~ gT (.exit _); refine thn_exit ?_)
      | (guard_target =~ gT .ret; refine thn_ret ?_)
      | (guard_target =~ gI .normal; refine inb_normal ?_)
      | (guard_target =~ gI (.exit _); first | refine inb_hit ?_ | refine inb_miss rfl ?_)
      | (guard_target =~ gI .ret; refine inb_ret ?_)))
  refine WU.stp rfl rfl rfl (stp_invoke rfl rfl (c_Und_basic b w1)) ?_
  rintro _ _ ⟨rfl, rfl⟩
  have i1 := h1.ext' x1
  (repeat (first
      | (guard_target =~ gU _; first
          | (guard_target =~ gU []; first | refine WU.nilk ?_ | refine WU.nil ?_)
          | refine WU.yld rfl rfl rfl (by first | (guard_target =~ gY (.move _); exact ze rfl) | (guard_target =~ gY (.assign _); exact yf rfl) | (guard_target =~ gY (.load _ _); (first| exact za rfl rfl|exact zb rfl)) | (guard_target =~ gY (.fieldAddr _ _ _); exact yt rfl) | (guard_target =~ gY (.nilCheck _); (first| exact zq rfl|exact zr rfl)) | (guard_target =~ gY (.extract _ _); exact ys rfl rfl) | (guard_target =~ gY (.typeAssert _ _ _ true); (first| exact ye rfl rfl|exact yd rfl rfl (by first | rfl | assumption)|exact yc rfl rfl)) | (guard_target =~ gY (.typeAssert _ _ _ false); exact yb rfl rfl) | (guard_target =~ gY (.makeInterface _ _); exact zd rfl rfl) | (guard_target =~ gY (.pick _ _ _); (first| exact zv rfl rfl|exact zu rfl rfl|exact zt rfl rfl rfl)) | (guard_target =~ gY (.binOp .neq _ _ _ _); (first| exact zj rfl rfl|exact zn rfl rfl|exact zm rfl rfl|exact zg rfl rfl|exact zh rfl rfl|exact zl rfl rfl|exact zf rfl rfl|exact zp rfl rfl|exact zk rfl rfl|exact zo rfl rfl|exact zi (by first | decide | assumption) rfl rfl)) | (guard_target =~ gY (.binOp .eql _ _ _ _); (first| exact yl rfl rfl|exact yp rfl rfl|exact yo rfl rfl|exact yi rfl rfl|exact yj rfl rfl|exact yn rfl rfl|exact yh rfl rfl|exact yr rfl rfl|exact ym rfl rfl|exact yq rfl rfl|exact yk (by first | decide | assumption) rfl rfl)) | (guard_target =~ gY (.unOp .not _ _); exact zs rfl) | (guard_target =~ gY (.binOp .lss _ _ _ _); exact zc rfl rfl) | (guard_target =~ gY (.binOp .leq _ _ _ _); exact yz rfl rfl) | (guard_target =~ gY (.binOp .gtr _ _ _ _); exact yv rfl rfl) | (guard_target =~ gY (.binOp .geq _ _ _ _); exact yu rfl rfl) | (guard_target =~ gY (.binOp .add _ _ _ _); exact ya rfl rfl (by omega)) | (guard_target =~ gY (.binOp .sub _ _ _ _); exact zw rfl rfl (by omega)) | (guard_target =~ gY (.call _); (first| exact yx rfl|exact yy rfl)) | (guard_target =~ gY (.build _ _); exact yg rfl rfl) | (guard_target =~ gY (.indexAddr _ _ _); exact yw rfl rfl (by omega) (by omega))) ?_
          | refine WU.skip rfl rfl rfl ?_)
      | (guard_target =~ gW (.seq _ _); refine W.seq ?_)
      | (guard_target =~ gW (.region _ _ false); refine W.reg ?_)
      | (guard_target =~ gW (.cond _ _ _); first | refine W.cond_t rfl ?_ | refine W.cond_f rfl ?_)
      | (guard_target =~ gW (.block _ _); refine W.block ?_)
      | (guard_target =~ gW .skip; refine W.skip ?_)
      | (guard_target =~ gW (.exit _); refine W.exit ?_)
      | (guard_target =~ gW .ret; refine W.ret ?_)
      | (guard_target =~ gT .normal; refine thn_normal ?_)
      | (guard_target =~ gT (.exit _); refine thn_exit ?_)
      | (guard_target =~ gT .ret; refine thn_ret ?_)
      | (guard_target =~ gI .normal; refine inb_normal ?_)
      | (guard_target =~ gI (.exit _); first | refine inb_hit ?_ | refine inb_miss rfl ?_)
      | (guard_target =~ gI .ret; refine inb_ret ?_)))
  rw [show (k == 25) = false by simp; omega]
  (repeat (first
      | (guard_target =~ gU _; first
          | (guard_target =~ gU []; first | refine WU.nilk ?_ | refine WU.nil ?_)
          | refine WU.yld rfl rfl rfl (by first | (guard_target =~ gY (.move _); exact ze rfl) | (guard_target =~ gY (.assign _); exact yf rfl) | (guard_target =~ gY (.load _ _); (first| exact za rfl rfl|exact zb rfl)) | (guard_target =~ gY (.fieldAddr _ _ _); exact yt rfl) | (guard_target =~ gY (.nilCheck _); (first| exact zq rfl|exact zr rfl)) | (guard_target =~ gY (.extract _ _); exact ys rfl rfl) | (guard_target =~ gY (.typeAssert _ _ _ true); (first| exact ye rfl rfl|exact yd rfl rfl (by first | rfl | assumption)|exact yc rfl rfl)) | (guard_target =~ gY (.typeAssert _ _ _ false); exact yb rfl rfl) | (guard_target =~ gY (.makeInterface _ _); exact zd rfl rfl) | (guard_target =~ gY (.pick _ _ _); (first| exact zv rfl rfl|exact zu rfl rfl|exact zt rfl rfl rfl)) | (guard_target =~ gY (.binOp .neq _ _ _ _); (first| exact zj rfl rfl|exact zn rfl rfl|exact zm rfl rfl|exact zg rfl rfl|exact zh rfl rfl|exact zl rfl rfl|exact zf rfl rfl|exact zp rfl rfl|exact zk rfl rfl|exact zo rfl rfl|exact zi (by first | decide | assumption) rfl rfl)) | (guard_target =~ gY (.binOp .eql _ _ _ _); (first| exact yl rfl rfl|exact yp rfl rfl|exact yo rfl rfl|exact yi rfl rfl|exact yj rfl rfl|exact yn rfl rfl|exact yh rfl rfl|exact yr rfl rfl|exact ym rfl rfl|exact yq rfl rfl|exact yk (by first | decide | assumption) rfl rfl)) | (guard_target =~ gY (.unOp .not _ _); exact zs rfl) | (guard_target =~ gY (.binOp .lss _ _ _ _); exact zc rfl rfl) | (guard_target =~ gY (.binOp .leq _ _ _ _); exact yz rfl rfl) | (guard_target =~ gY (.binOp .gtr _ _ _ _); exact yv rfl rfl) | (guard_target =~ gY (.binOp .geq _ _ _ _); exact yu rfl rfl) | (guard_target =~ gY (.binOp .add _ _ _ _); exact ya rfl rfl (by omega)) | (guard_target =~ gY (.binOp .sub _ _ _ _); exact zw rfl rfl (by omega)) | (guard_target =~ gY (.call _); (first| exact yx rfl|exact yy rfl)) | (guard_target =~ gY (.build _ _); exact yg rfl rfl) | (guard_target =~ gY (.indexAddr _ _ _); exact yw rfl rfl (by omega) (by omega))) ?_
          | refine WU.skip rfl rfl rfl ?_)
      | (guard_target =~ gW (.seq _ _); refine W.seq ?_)
      | (guard_target =~ gW (.region _ _ false); refine W.reg ?_)
      | (guard_target =~ gW (.cond _ _ _); first | refine W.cond_t rfl ?_ | refine W.cond_f rfl ?_)
      | (guard_target =~ gW (.block _ _); refine W.block ?_)
      | (guard_target =~ gW .skip; refine W.skip ?_)
      | (guard_target =~ gW (.exit _); refine W.exit ?_)
      | (guard_target =~ gW .ret; refine W.ret ?_)
      | (guard_target =~ gT .normal; refine thn_normal ?_)
      | (guard_target =~ gT (.exit _); refine thn_exit ?_)
      | (guard_target =~ gT .ret; refine thn_ret ?_)
      | (guard_target =~ gI .normal; refine inb_normal ?_)
      | (guard_target =~ gI (.exit _); first | refine inb_hit ?_ | refine inb_miss rfl ?_)
      | (guard_target =~ gI .ret; refine inb_ret ?_)))
  exact fin1 (.inl rfl) rfl rfl ⟨.inl ⟨rfl, rfl⟩, x1⟩

set_option maxHeartbeats 1000000 in
theorem ct_nl_ptr {w0 : World} {b : Nat}  (hp : Pl w0 b)  :
    Calls Tryz.prog 40 #[(.iface 54 (.pointer (some ⟨b, 0, none⟩))), .bool true, .map none] w0 (Ret fun r w' => Rz r true ∧ Ext w0 w') := by
  refine W.enter (args := [(.iface 54 (.pointer (some ⟨b, 0, none⟩))), .bool true, .map none]) Tryz.func40 rfl Tryz.ntmps40 rfl rfl ?_
  (repeat (first
      | (guard_target =~ gU _; first
          | (guard_target =~ gU []; first | refine WU.nilk ?_ | refine WU.nil ?_)
          | refine WU.yld rfl rfl rfl (by first | (guard_target =~ gY (.move _); exact ze rfl) | (guard_target =~ gY (.assign _); exact yf rfl) | (guard_target =~ gY (.load _ _); (first| exact za rfl rfl|exact zb rfl)) | (guard_target =~ gY (.fieldAddr _ _ _); exact yt rfl) | (guard_target =~ gY (.nilCheck _); (first| exact zq rfl|exact zr rfl)) | (guard_target =~ gY (.extract _ _); exact ys rfl rfl) | (guard_target =~ gY (.typeAssert _ _ _ true); (first| exact ye rfl rfl|exact yd rfl rfl (by first | rfl | assumption)|exact yc rfl rfl)) | (guard_target =~ gY (.typeAssert _ _ _ false); exact yb rfl rfl) | (guard_target =~ gY (.makeInterface _ _); exact zd rfl rfl) | (guard_target =~ gY (.pick _ _ _); (first| exact zv rfl rfl|exact zu rfl rfl|exact zt rfl rfl rfl)) | (guard_target =~ gY (.binOp .neq _ _ _ _); (first| exact zj rfl rfl|exact zn rfl rfl|exact zm rfl rfl|exact zg rfl rfl|exact zh rfl rfl|exact zl rfl rfl|exact zf rfl rfl|exact zp rfl rfl|exact zk rfl rfl|exact zo rfl rfl|exact zi (by first | decide | assumption) rfl rfl)) | (guard_target =~ gY (.binOp .eql _ _ _ _); (first| exact yl rfl rfl|exact yp rfl rfl|exact yo rfl rfl|exact yi rfl rfl|exact yj rfl rfl|exact yn rfl rfl|exact yh rfl rfl|exact yr rfl rfl|exact ym rfl rfl|exact yq rfl rfl|exact yk (by first | decide | assumption) rfl rfl)) | (guard_target =~ gY (.unOp .not _ _); exact zs rfl) | (guard_target =~ gY (.binOp .lss _ _ _ _); exact zc rfl rfl) | (guard_target =~ gY (.binOp .leq _ _ _ _); exact yz rfl rfl) | (guard_target =~ gY (.binOp .gtr _ _ _ _); exact yv rfl rfl) | (guard_target =~ gY (.binOp .geq _ _ _ _); exact yu rfl rfl) | (guard_target =~ gY (.binOp .add _ _ _ _); exact ya rfl rfl (by omega)) | (guard_target =~ gY (.binOp .sub _ _ _ _); exact zw rfl rfl (by omega)) | (guard_target =~ gY (.call _); (first| exact yx rfl|exact yy rfl)) | (guard_target =~ gY (.build _ _); exact yg rfl rfl) | (guard_target =~ gY (.indexAddr _ _ _); exact yw rfl rfl (by omega) (by omega))) ?_
          | refine WU.skip rfl rfl rfl ?_)
      | (guard_target =~ gW (.seq _ _); refine W.seq ?_)
      | (guard_target =~ gW (.region _ _ false); refine W.reg ?_)
      | (guard_target =~ gW (.cond _ _ _); first | refine W.cond_t rfl ?_ | refine W.cond_f rfl ?_)
      | (guard_target =~ gW (.block _ _); refine W.block ?_)
      | (guard_target =~ gW .skip; refine W.skip ?_)
      | (guard_target =~ gW (.exit _); refine W.exit ?_)
      | (guard_target =~ gW .ret; refine W.ret ?_)
      | (guard_target =~ gT .normal; refine thn_normal ?_)
      | (guard_target =~ gT (.exit _); refine thn_exit ?_)
      | (guard_target =~ gT .ret; refine thn_ret ?_)
      | (guard_target =~ gI .normal; refine inb_normal ?_)
      | (guard_target =~ gI (.exit _); first | refine inb_hit ?_ | refine inb_miss rfl ?_)
      | (guard_target =~ gI .ret; refine inb_ret ?_)))
  refine WU.stp rfl rfl rfl (stp_lookup_nil rfl rfl) ?_
  rintro _ _ ⟨rfl, rfl⟩
  (repeat (first
      | (guard_target =~ gU _; first
          | (guard_target =~ gU []; first | refine WU.nilk ?_ | refine WU.nil ?_)
          | refine WU.yld rfl rfl rfl (by first | (guard_target =~ gY (.move _); exact ze rfl) | (guard_target =~ gY (.assign _); exact yf rfl) | (guard_target =~ gY (.load _ _); (first| exact za rfl rfl|exact zb rfl)) | (guard_target =~ gY (.fieldAddr _ _ _); exact yt rfl) | (guard_target =~ gY (.nilCheck _); (first| exact zq rfl|exact zr rfl)) | (guard_target =~ gY (.extract _ _); exact ys rfl rfl) | (guard_target =~ gY (.typeAssert _ _ _ true); (first| exact ye rfl rfl|exact yd rfl rfl (by first | rfl | assumption)|exact yc rfl rfl)) | (guard_target =~ gY (.typeAssert _ _ _ false); exact yb rfl rfl) | (guard_target =~ gY (.makeInterface _ _); exact zd rfl rfl) | (guard_target =~ gY (.pick _ _ _); (first| exact zv rfl rfl|exact zu rfl rfl|exact zt rfl rfl rfl)) | (guard_target =~ gY (.binOp .neq _ _ _ _); (first| exact zj rfl rfl|exact zn rfl rfl|exact zm rfl rfl|exact zg rfl rfl|exact zh rfl rfl|exact zl rfl rfl|exact zf rfl rfl|exact zp rfl rfl|exact zk rfl rfl|exact zo rfl rfl|exact zi (by first | decide | assumption) rfl rfl)) | (guard_target =~ gY (.binOp .eql _ _ _ _); (first| exact yl rfl rfl|exact yp rfl rfl|exact yo rfl rfl|exact yi rfl rfl|exact yj rfl rfl|exact yn rfl rfl|exact yh rfl rfl|exact yr rfl rfl|exact ym rfl rfl|exact yq rfl rfl|exact yk (by first | decide | assumption) rfl rfl)) | (guard_target =~ gY (.unOp .not _ _); exact zs rfl) | (guard_target =~ gY (.binOp .lss _ _ _ _); exact zc rfl rfl) | (guard_target =~ gY (.binOp .leq _ _ _ _); exact yz rfl rfl) | (guard_target =~ gY (.binOp .gtr _ _ _ _); exact yv rfl rfl) | (guard_target =~ gY (.binOp .geq _ _ _ _); exact yu rfl rfl) | (guard_target =~ gY (.binOp .add _ _ _ _); exact ya rfl rfl (by omega)) | (guard_target =~ gY (.binOp .sub _ _ _ _); exact zw rfl rfl (by omega)) | (guard_target =~ gY (.call _); (first| exact yx rfl|exact yy rfl)) | (guard_target =~ gY (.build _ _); exact yg rfl rfl) | (guard_target =~ gY (.indexAddr _ _ _); exact yw rfl rfl (by omega) (by omega))) ?_
          | refine WU.skip rfl rfl rfl ?_)
      | (guard_target =~ gW (.seq _ _); refine W.seq ?_)
      | (guard_target =~ gW (.region _ _ false); refine W.reg ?_)
      | (guard_target =~ gW (.cond _ _ _); first | refine W.cond_t rfl ?_ | refine W.cond_f rfl ?_)
      | (guard_target =~ gW (.block _ _); refine W.block ?_)
      | (guard_target =~ gW .skip; refine W.skip ?_)
      | (guard_target =~ gW (.exit _); refine W.exit ?_)
      | (guard_target =~ gW .ret; refine W.ret ?_)
      | (guard_target =~ gT .normal; refine thn_normal ?_)
      | (guard_target =~ gT (.exit _); refine thn_exit ?_)
      | (guard_target =~ gT .ret; refine thn_ret ?_)
      | (guard_target =~ gI .normal; refine inb_normal ?_)
      | (guard_target =~ gI (.exit _); first | refine inb_hit ?_ | refine inb_miss rfl ?_)
      | (guard_target =~ gI .ret; refine inb_ret ?_)))
  refine WU.stp rfl rfl rfl stp_makeMap ?_
  rintro _ wm ⟨r, rfl, nm1⟩
  have hle : w0.heap.size ≤ r := by have := nm1.num; omega
  (repeat (first
      | (guard_target =~ gU _; first
          | (guard_target =~ gU []; first | refine WU.nilk ?_ | refine WU.nil ?_)
          | refine WU.yld rfl rfl rfl (by first | (guard_target =~ gY (.move _); exact ze rfl) | (guard_target =~ gY (.assign _); exact yf rfl) | (guard_target =~ gY (.load _ _); (first| exact za rfl rfl|exact zb rfl)) | (guard_target =~ gY (.fieldAddr _ _ _); exact yt rfl) | (guard_target =~ gY (.nilCheck _); (first| exact zq rfl|exact zr rfl)) | (guard_target =~ gY (.extract _ _); exact ys rfl rfl) | (guard_target =~ gY (.typeAssert _ _ _ true); (first| exact ye rfl rfl|exact yd rfl rfl (by first | rfl | assumption)|exact yc rfl rfl)) | (guard_target =~ gY (.typeAssert _ _ _ false); exact yb rfl rfl) | (guard_target =~ gY (.makeInterface _ _); exact zd rfl rfl) | (guard_target =~ gY (.pick _ _ _); (first| exact zv rfl rfl|exact zu rfl rfl|exact zt rfl rfl rfl)) | (guard_target =~ gY (.binOp .neq _ _ _ _); (first| exact zj rfl rfl|exact zn rfl rfl|exact zm rfl rfl|exact zg rfl rfl|exact zh rfl rfl|exact zl rfl rfl|exact zf rfl rfl|exact zp rfl rfl|exact zk rfl rfl|exact zo rfl rfl|exact zi (by first | decide | assumption) rfl rfl)) | (guard_target =~ gY (.binOp .eql _ _ _ _); (first| exact yl rfl rfl|exact yp rfl rfl|exact yo rfl rfl|exact yi rfl rfl|exact yj rfl rfl|exact yn rfl rfl|exact yh rfl rfl|exact yr rfl rfl|exact ym rfl rfl|exact yq rfl rfl|exact yk (by first | decide | assumption) rfl rfl)) | (guard_target =~ gY (.unOp .not _ _); exact zs rfl) | (guard_target =~ gY (.binOp .lss _ _ _ _); exact zc rfl rfl) | (guard_target =~ gY (.binOp .leq _ _ _ _); exact yz rfl rfl) | (guard_target =~ gY (.binOp .gtr _ _ _ _); exact yv rfl rfl) | (guard_target =~ gY (.binOp .geq _ _ _ _); exact yu rfl rfl) | (guard_target =~ gY (.binOp .add _ _ _ _); exact ya rfl rfl (by omega)) | (guard_target =~ gY (.binOp .sub _ _ _ _); exact zw rfl rfl (by omega)) | (guard_target =~ gY (.call _); (first| exact yx rfl|exact yy rfl)) | (guard_target =~ gY (.build _ _); exact yg rfl rfl) | (guard_target =~ gY (.indexAddr _ _ _); exact yw rfl rfl (by omega) (by omega))) ?_
          | refine WU.skip rfl rfl rfl ?_)
      | (guard_target =~ gW (.seq _ _); refine W.seq ?_)
      | (guard_target =~ gW (.region _ _ false); refine W.reg ?_)
      | (guard_target =~ gW (.cond _ _ _); first | refine W.cond_t rfl ?_ | refine W.cond_f rfl ?_)
      | (guard_target =~ gW (.block _ _); refine W.block ?_)
      | (guard_target =~ gW .skip; refine W.skip ?_)
      | (guard_target =~ gW (.exit _); refine W.exit ?_)
      | (guard_target =~ gW .ret; refine W.ret ?_)
      | (guard_target =~ gT .normal; refine thn_normal ?_)
      | (guard_target =~ gT (.exit _); refine thn_exit ?_)
      | (guard_target =~ gT .ret; refine thn_ret ?_)
      | (guard_target =~ gI .normal; refine inb_normal ?_)
      | (guard_target =~ gI (.exit _); first | refine inb_hit ?_ | refine inb_miss rfl ?_)
      | (guard_target =~ gI .ret; refine inb_ret ?_)))
  refine WU.stp0 rfl rfl (stp_mapNew rfl rfl rfl nm1.has (hp.ext' nm1.ext) (by intro m hm; cases hm)) ?_
  rintro _ w1 u1
  have x1 : Ext w0 w1 := u1.ext nm1.ext hle
  (repeat (first
      | (guard_target =~ gU _; first
          | (guard_target =~ gU []; first | refine WU.nilk ?_ | refine WU.nil ?_)
          | refine WU.yld rfl rfl rfl (by first | (guard_target =~ gY (.move _); exact ze rfl) | (guard_target =~ gY (.assign _); exact yf rfl) | (guard_target =~ gY (.load _ _); (first| exact za rfl rfl|exact zb rfl)) | (guard_target =~ gY (.fieldAddr _ _ _); exact yt rfl) | (guard_target =~ gY (.nilCheck _); (first| exact zq rfl|exact zr rfl)) | (guard_target =~ gY (.extract _ _); exact ys rfl rfl) | (guard_target =~ gY (.typeAssert _ _ _ true); (first| exact ye rfl rfl|exact yd rfl rfl (by first | rfl | assumption)|exact yc rfl rfl)) | (guard_target =~ gY (.typeAssert _ _ _ false); exact yb rfl rfl) | (guard_target =~ gY (.makeInterface _ _); exact zd rfl rfl) | (guard_target =~ gY (.pick _ _ _); (first| exact zv rfl rfl|exact zu rfl rfl|exact zt rfl rfl rfl)) | (guard_target =~ gY (.binOp .neq _ _ _ _); (first| exact zj rfl rfl|exact zn rfl rfl|exact zm rfl rfl|exact zg rfl rfl|exact zh rfl rfl|exact zl rfl rfl|exact zf rfl rfl|exact zp rfl rfl|exact zk rfl rfl|exact zo rfl rfl|exact zi (by first | decide | assumption) rfl rfl)) | (guard_target =~ gY (.binOp .eql _ _ _ _); (first| exact yl rfl rfl|exact yp rfl rfl|exact yo rfl rfl|exact yi rfl rfl|exact yj rfl rfl|exact yn rfl rfl|exact yh rfl rfl|exact yr rfl rfl|exact ym rfl rfl|exact yq rfl rfl|exact yk (by first | decide | assumption) rfl rfl)) | (guard_target =~ gY (.unOp .not _ _); exact zs rfl) | (guard_target =~ gY (.binOp .lss _ _ _ _); exact zc rfl rfl) | (guard_target =~ gY (.binOp .leq _ _ _ _); exact yz rfl rfl) | (guard_target =~ gY (.binOp .gtr _ _ _ _); exact yv rfl rfl) | (guard_target =~ gY (.binOp .geq _ _ _ _); exact yu rfl rfl) | (guard_target =~ gY (.binOp .add _ _ _ _); exact ya rfl rfl (by omega)) | (guard_target =~ gY (.binOp .sub _ _ _ _); exact zw rfl rfl (by omega)) | (guard_target =~ gY (.call _); (first| exact yx rfl|exact yy rfl)) | (guard_target =~ gY (.build _ _); exact yg rfl rfl) | (guard_target =~ gY (.indexAddr _ _ _); exact yw rfl rfl (by omega) (by omega))) ?_
          | refine WU.skip rfl rfl rfl ?_)
      | (guard_target =~ gW (.seq _ _); refine W.seq ?_)
      | (guard_target =~ gW (.region _ _ false); refine W.reg ?_)
      | (guard_target =~ gW (.cond _ _ _); first | refine W.cond_t rfl ?_ | refine W.cond_f rfl ?_)
      | (guard_target =~ gW (.block _ _); refine W.block ?_)
      | (guard_target =~ gW .skip; refine W.skip ?_)
      | (guard_target =~ gW (.exit _); refine W.exit ?_)
      | (guard_target =~ gW .ret; refine W.ret ?_)
      | (guard_target =~ gT .normal; refine thn_normal ?_)
      | (guard_target =~ gT (.exit _); refine thn_exit ?_)
      | (guard_target =~ gT .ret; refine thn_ret ?_)
      | (guard_target =~ gI .normal; refine inb_normal ?_)
      | (guard_target =~ gI (.exit _); first | refine inb_hit ?_ | refine inb_miss rfl ?_)
      | (guard_target =~ gI .ret; refine inb_ret ?_)))
  refine WU.stp rfl rfl rfl (stp_invoke rfl rfl (c_Und_ptr b w1)) ?_
  rintro _ _ ⟨rfl, rfl⟩
  (repeat (first
      | (guard_target =~ gU _; first
          | (guard_target =~ gU []; first | refine WU.nilk ?_ | refine WU.nil ?_)
          | refine WU.yld rfl rfl rfl (by first | (guard_target =~ gY (.move _); exact ze rfl) | (guard_target =~ gY (.assign _); exact yf rfl) | (guard_target =~ gY (.load _ _); (first| exact za rfl rfl|exact zb rfl)) | (guard_target =~ gY (.fieldAddr _ _ _); exact yt rfl) | (guard_target =~ gY (.nilCheck _); (first| exact zq rfl|exact zr rfl)) | (guard_target =~ gY (.extract _ _); exact ys rfl rfl) | (guard_target =~ gY (.typeAssert _ _ _ true); (first| exact ye rfl rfl|exact yd rfl rfl (by first | rfl | assumption)|exact yc rfl rfl)) | (guard_target =~ gY (.typeAssert _ _ _ false); exact yb rfl rfl) | (guard_target =~ gY (.makeInterface _ _); exact zd rfl rfl) | (guard_target =~ gY (.pick _ _ _); (first| exact zv rfl rfl|exact zu rfl rfl|exact zt rfl rfl rfl)) | (guard_target =~ gY (.binOp .neq _ _ _ _); (first| exact zj rfl rfl|exact zn rfl rfl|exact zm rfl rfl|exact zg rfl rfl|exact zh rfl rfl|exact zl rfl rfl|exact zf rfl rfl|exact zp rfl rfl|exact zk rfl rfl|exact zo rfl rfl|exact zi (by first | decide | assumption) rfl rfl)) | (guard_target =~ gY (.binOp .eql _ _ _ _); (first| exact yl rfl rfl|exact yp rfl rfl|exact yo rfl rfl|exact yi rfl rfl|exact yj rfl rfl|exact yn rfl rfl|exact yh rfl rfl|exact yr rfl rfl|exact ym rfl rfl|exact yq rfl rfl|exact yk (by first | decide | assumption) rfl rfl)) | (guard_target =~ gY (.unOp .not _ _); exact zs rfl) | (guard_target =~ gY (.binOp .lss _ _ _ _); exact zc rfl rfl) | (guard_target =~ gY (.binOp .leq _ _ _ _); exact yz rfl rfl) | (guard_target =~ gY (.binOp .gtr _ _ _ _); exact yv rfl rfl) | (guard_target =~ gY (.binOp .geq _ _ _ _); exact yu rfl rfl) | (guard_target =~ gY (.binOp .add _ _ _ _); exact ya rfl rfl (by omega)) | (guard_target =~ gY (.binOp .sub _ _ _ _); exact zw rfl rfl (by omega)) | (guard_target =~ gY (.call _); (first| exact yx rfl|exact yy rfl)) | (guard_target =~ gY (.build _ _); exact yg rfl rfl) | (guard_target =~ gY (.indexAddr _ _ _); exact yw rfl rfl (by omega) (by omega))) ?_
          | refine WU.skip rfl rfl rfl ?_)
      | (guard_target =~ gW (.seq _ _); refine W.seq ?_)
      | (guard_target =~ gW (.region _ _ false); refine W.reg ?_)
      | (guard_target =~ gW (.cond _ _ _); first | refine W.cond_t rfl ?_ | refine W.cond_f rfl ?_)
      | (guard_target =~ gW (.block _ _); refine W.block ?_)
      | (guard_target =~ gW .skip; refine W.skip ?_)
      | (guard_target =~ gW (.exit _); refine W.exit ?_)
      | (guard_target =~ gW .ret; refine W.ret ?_)
      | (guard_target =~ gT .normal; refine thn_normal ?_)
      | (guard_target =~ gT (.exit _); refine thn_exit ?_)
      | (guard_target =~ gT .ret; refine thn_ret ?_)
      | (guard_target =~ gI .normal; refine inb_normal ?_)
      | (guard_target =~ gI (.exit _); first | refine inb_hit ?_ | refine inb_miss rfl ?_)
      | (guard_target =~ gI .ret; refine inb_ret ?_)))
  exact fin1 (.inl rfl) rfl rfl ⟨.inl ⟨rfl, rfl⟩, x1⟩

set_option maxHeartbeats 1000000 in
theorem ct_nl_slice {w0 : World} {b : Nat}  (hp : Pl w0 b)  :
    Calls Tryz.prog 40 #[(.iface 56 (.pointer (some ⟨b, 0, none⟩))), .bool true, .map none] w0 (Ret fun r w' => Rz r false ∧ Ext w0 w') := by
  refine W.enter (args := [(.iface 56 (.pointer (some ⟨b, 0, none⟩))), .bool true, .map none]) Tryz.func40 rfl Tryz.ntmps40 rfl rfl ?_
  (repeat (first
      | (guard_target =~ gU _; first
          | (guard_target =~ gU []; first | refine WU.nilk ?_ | refine WU.nil ?_)
          | refine WU.yld rfl rfl rfl (by first | (guard_target =~ gY (.move _); exact ze rfl) | (guard_target =~ gY (.assign _); exact yf rfl) | (guard_target =~ gY (.load _ _); (first| exact za rfl rfl|exact zb rfl)) | (guard_target =~ gY (.fieldAddr _ _ _); exact yt rfl) | (guard_target =~ gY (.nilCheck _); (first| exact zq rfl|exact zr rfl)) | (guard_target =~ gY (.extract _ _); exact ys rfl rfl) | (guard_target =~ gY (.typeAssert _ _ _ true); (first| exact ye rfl rfl|exact yd rfl rfl (by first | rfl | assumption)|exact yc rfl rfl)) | (guard_target =~ gY (.typeAssert _ _ _ false); exact yb rfl rfl) | (guard_target =~ gY (.makeInterface _ _); exact zd rfl rfl) | (guard_target =~ gY (.pick _ _ _); (first| exact zv rfl rfl|exact zu rfl rfl|exact zt rfl rfl rfl)) | (guard_target =~ gY (.binOp .neq _ _ _ _); (first| exact zj rfl rfl|exact zn rfl rfl|exact zm rfl rfl|exact zg rfl rfl|exact zh rfl rfl|exact zl rfl rfl|exact zf rfl rfl|exact zp rfl rfl|exact zk rfl rfl|exact zo rfl rfl|exact zi (by first | decide | assumption) rfl rfl)) | (guard_target =~ gY (.binOp .eql _ _ _ _); (first| exact yl rfl rfl|exact yp rfl rfl|exact yo rfl rfl|exact yi rfl rfl|exact yj rfl rfl|exact yn rfl rfl|exact yh rfl rfl|exact yr rfl rfl|exact ym rfl rfl|exact yq rfl rfl|exact yk (by first | decide | assumption) rfl rfl)) | (guard_target =~ gY (.unOp .not _ _); exact zs rfl) | (guard_target =~ gY (.binOp .lss _ _ _ _); exact zc rfl rfl) | (guard_target =~ gY (.binOp .leq _ _ _ _); exact yz rfl rfl) | (guard_target =~ gY (.binOp .gtr _ _ _ _); exact yv rfl rfl) | (guard_target =~ gY (.binOp .geq _ _ _ _); exact yu rfl rfl) | (guard_target =~ gY (.binOp .add _ _ _ _); exact ya rfl rfl (by omega)) | (guard_target =~ gY (.binOp .sub _ _ _ _); exact zw rfl rfl (by omega)) | (guard_target =~ gY (.call _); (first| exact yx rfl|exact yy rfl)) | (guard_target =~ gY (.build _ _); exact yg rfl rfl) | (guard_target =~ gY (.indexAddr _ _ _); exact yw rfl rfl (by omega) (by omega))) ?_
          | refine WU.skip rfl rfl rfl ?_)
      | (guard_target =~ gW (.seq _ _); refine W.seq ?_)
      | (guard_target =~ gW (.region _ _ false); refine W.reg ?_)
      | (guard_target =~ gW (.cond _ _ _); first | refine W.cond_t rfl ?_ | refine W.cond_f rfl ?_)
      | (guard_target =~ gW (.block _ _); refine W.block ?_)
      | (guard_target =~ gW .skip; refine W.skip ?_)
      | (guard_target =~ gW (.exit _); refine W.exit ?_)
      | (guard_target =~ gW .ret; refine W.ret ?_)
      | (guard_target =~ gT .normal; refine thn_normal ?_)
      | (guard_target =~ gT (.exit _); refine thn_exit ?_)
      | (guard_target =~ gT .ret; refine thn_ret ?_)
      | (guard_target =~ gI .normal; refine inb_normal ?_)
      | (guard_target =~ gI (.exit _); first | refine inb_hit ?_ | refine inb_miss rfl ?_)
      | (guard_target =~ gI .ret; refine inb_ret ?_)))
  refine WU.stp rfl rfl rfl (stp_lookup_nil rfl rfl) ?_
  rintro _ _ ⟨rfl, rfl⟩
  (repeat (first
      | (guard_target =~ gU _; first
          | (guard_target =~ gU []; first | refine WU.nilk ?_ | refine WU.nil ?_)
          | refine WU.yld rfl rfl rfl (by first | (guard_target =~ gY (.move _); exact ze rfl) | (guard_target =~ gY (.assign _); exact yf rfl) | (guard_target =~ gY (.load _ _); (first| exact za rfl rfl|exact zb rfl)) | (guard_target =~ gY (.fieldAddr _ _ _); exact yt rfl) | (guard_target =~ gY (.nilCheck _); (first| exact zq rfl|exact zr rfl)) | (guard_target =~ gY (.extract _ _); exact ys rfl rfl) | (guard_target =~ gY (.typeAssert _ _ _ true); (first| exact ye rfl rfl|exact yd rfl rfl (by first | rfl | assumption)|exact yc rfl rfl)) | (guard_target =~ gY (.typeAssert _ _ _ false); exact yb rfl rfl) | (guard_target =~ gY (.makeInterface _ _); exact zd rfl rfl) | (guard_target =~ gY (.pick _ _ _); (first| exact zv rfl rfl|exact zu rfl rfl|exact zt rfl rfl rfl)) | (guard_target =~ gY (.binOp .neq _ _ _ _); (first| exact zj rfl rfl|exact zn rfl rfl|exact zm rfl rfl|exact zg rfl rfl|exact zh rfl rfl|exact zl rfl rfl|exact zf rfl rfl|exact zp rfl rfl|exact zk rfl rfl|exact zo rfl rfl|exact zi (by first | decide | assumption) rfl rfl)) | (guard_target =~ gY (.binOp .eql _ _ _ _); (first| exact yl rfl rfl|exact yp rfl rfl|exact yo rfl rfl|exact yi rfl rfl|exact yj rfl rfl|exact yn rfl rfl|exact yh rfl rfl|exact yr rfl rfl|exact ym rfl rfl|exact yq rfl rfl|exact yk (by first | decide | assumption) rfl rfl)) | (guard_target =~ gY (.unOp .not _ _); exact zs rfl) | (guard_target =~ gY (.binOp .lss _ _ _ _); exact zc rfl rfl) | (guard_target =~ gY (.binOp .leq _ _ _ _); exact yz rfl rfl) | (guard_target =~ gY (.binOp .gtr _ _ _ _); exact yv rfl rfl) | (guard_target =~ gY (.binOp .geq _ _ _ _); exact yu rfl rfl) | (guard_target =~ gY (.binOp .add _ _ _ _); exact ya rfl rfl (by omega)) | (guard_target =~ gY (.binOp .sub _ _ _ _); exact zw rfl rfl (by omega)) | (guard_target =~ gY (.call _); (first| exact yx rfl|exact yy rfl)) | (guard_target =~ gY (.build _ _); exact yg rfl rfl) | (guard_target =~ gY (.indexAddr _ _ _); exact yw rfl rfl (by omega) (by omega))) ?_
          | refine WU.skip rfl rfl rfl ?_)
      | (guard_target =~ gW (.seq _ _); refine W.seq ?_)
      | (guard_target =~ gW (.region _ _ false); refine W.reg ?_)
      | (guard_target =~ gW (.cond _ _ _); first | refine W.cond_t rfl ?_ | refine W.cond_f rfl ?_)
      | (guard_target =~ gW (.block _ _); refine W.block ?_)
      | (guard_target =~ gW .skip; refine W.skip ?_)
      | (guard_target =~ gW (.exit _); refine W.exit ?_)
      | (guard_target =~ gW .ret; refine W.ret ?_)
      | (guard_target =~ gT .normal; refine thn_normal ?_)
      | (guard_target =~ gT (.exit _); refine thn_exit ?_)
      | (guard_target =~ gT .ret; refine thn_ret ?_)
      | (guard_target =~ gI .normal; refine inb_normal ?_)
      | (guard_target =~ gI (.exit _); first | refine inb_hit ?_ | refine inb_miss rfl ?_)
      | (guard_target =~ gI .ret; refine inb_ret ?_)))
  refine WU.stp rfl rfl rfl stp_makeMap ?_
  rintro _ wm ⟨r, rfl, nm1⟩
  have hle : w0.heap.size ≤ r := by have := nm1.num; omega
  (repeat (first
      | (guard_target =~ gU _; first
          | (guard_target =~ gU []; first | refine WU.nilk ?_ | refine WU.nil ?_)
          | refine WU.yld rfl rfl rfl (by first | (guard_target =~ gY (.move _); exact ze rfl) | (guard_target =~ gY (.assign _); exact yf rfl) | (guard_target =~ gY (.load _ _); (first| exact za rfl rfl|exact zb rfl)) | (guard_target =~ gY (.fieldAddr _ _ _); exact yt rfl) | (guard_target =~ gY (.nilCheck _); (first| exact zq rfl|exact zr rfl)) | (guard_target =~ gY (.extract _ _); exact ys rfl rfl) | (guard_target =~ gY (.typeAssert _ _ _ true); (first| exact ye rfl rfl|exact yd rfl rfl (by first | rfl | assumption)|exact yc rfl rfl)) | (guard_target =~ gY (.typeAssert _ _ _ false); exact yb rfl rfl) | (guard_target =~ gY (.makeInterface _ _); exact zd rfl rfl) | (guard_target =~ gY (.pick _ _ _); (first| exact zv rfl rfl|exact zu rfl rfl|exact zt rfl rfl rfl)) | (guard_target =~ gY (.binOp .neq _ _ _ _); (first| exact zj rfl rfl|exact zn rfl rfl|exact zm rfl rfl|exact zg rfl rfl|exact zh rfl rfl|exact zl rfl rfl|exact zf rfl rfl|exact zp rfl rfl|exact zk rfl rfl|exact zo rfl rfl|exact zi (by first | decide | assumption) rfl rfl)) | (guard_target =~ gY (.binOp .eql _ _ _ _); (first| exact yl rfl rfl|exact yp rfl rfl|exact yo rfl rfl|exact yi rfl rfl|exact yj rfl rfl|exact yn rfl rfl|exact yh rfl rfl|exact yr rfl rfl|exact ym rfl rfl|exact yq rfl rfl|exact yk (by first | decide | assumption) rfl rfl)) | (guard_target =~ gY (.unOp .not _ _); exact zs rfl) | (guard_target =~ gY (.binOp .lss _ _ _ _); exact zc rfl rfl) | (guard_target =~ gY (.binOp .leq _ _ _ _); exact yz rfl rfl) | (guard_target =~ gY (.binOp .gtr _ _ _ _); exact yv rfl rfl) | (guard_target =~ gY (.binOp .geq _ _ _ _); exact yu rfl rfl) | (guard_target =~ gY (.binOp .add _ _ _ _); exact ya rfl rfl (by omega)) | (guard_target =~ gY (.binOp .sub _ _ _ _); exact zw rfl rfl (by omega)) | (guard_target =~ gY (.call _); (first| exact yx rfl|exact yy rfl)) | (guard_target =~ gY (.build _ _); exact yg rfl rfl) | (guard_target =~ gY (.indexAddr _ _ _); exact yw rfl rfl (by omega) (by omega))) ?_
          | refine WU.skip rfl rfl rfl ?_)
      | (guard_target =~ gW (.seq _ _); refine W.seq ?_)
      | (guard_target =~ gW (.region _ _ false); refine W.reg ?_)
      | (guard_target =~ gW (.cond _ _ _); first | refine W.cond_t rfl ?_ | refine W.cond_f rfl ?_)
      | (guard_target =~ gW (.block _ _); refine W.block ?_)
      | (guard_target =~ gW .skip; refine W.skip ?_)
      | (guard_target =~ gW (.exit _); refine W.exit ?_)
      | (guard_target =~ gW .ret; refine W.ret ?_)
      | (guard_target =~ gT .normal; refine thn_normal ?_)
      | (guard_target =~ gT (.exit _); refine thn_exit ?_)
      | (guard_target =~ gT .ret; refine thn_ret ?_)
      | (guard_target =~ gI .normal; refine inb_normal ?_)
      | (guard_target =~ gI (.exit _); first | refine inb_hit ?_ | refine inb_miss rfl ?_)
      | (guard_target =~ gI .ret; refine inb_ret ?_)))
  refine WU.stp0 rfl rfl (stp_mapNew rfl rfl rfl nm1.has (hp.ext' nm1.ext) (by intro m hm; cases hm)) ?_
  rintro _ w1 u1
  have x1 : Ext w0 w1 := u1.ext nm1.ext hle
  (repeat (first
      | (guard_target =~ gU _; first
          | (guard_target =~ gU []; first | refine WU.nilk ?_ | refine WU.nil ?_)
          | refine WU.yld rfl rfl rfl (by first | (guard_target =~ gY (.move _); exact ze rfl) | (guard_target =~ gY (.assign _); exact yf rfl) | (guard_target =~ gY (.load _ _); (first| exact za rfl rfl|exact zb rfl)) | (guard_target =~ gY (.fieldAddr _ _ _); exact yt rfl) | (guard_target =~ gY (.nilCheck _); (first| exact zq rfl|exact zr rfl)) | (guard_target =~ gY (.extract _ _); exact ys rfl rfl) | (guard_target =~ gY (.typeAssert _ _ _ true); (first| exact ye rfl rfl|exact yd rfl rfl (by first | rfl | assumption)|exact yc rfl rfl)) | (guard_target =~ gY (.typeAssert _ _ _ false); exact yb rfl rfl) | (guard_target =~ gY (.makeInterface _ _); exact zd rfl rfl) | (guard_target =~ gY (.pick _ _ _); (first| exact zv rfl rfl|exact zu rfl rfl|exact zt rfl rfl rfl)) | (guard_target =~ gY (.binOp .neq _ _ _ _); (first| exact zj rfl rfl|exact zn rfl rfl|exact zm rfl rfl|exact zg rfl rfl|exact zh rfl rfl|exact zl rfl rfl|exact zf rfl rfl|exact zp rfl rfl|exact zk rfl rfl|exact zo rfl rfl|exact zi (by first | decide | assumption) rfl rfl)) | (guard_target =~ gY (.binOp .eql _ _ _ _); (first| exact yl rfl rfl|exact yp rfl rfl|exact yo rfl rfl|exact yi rfl rfl|exact yj rfl rfl|exact yn rfl rfl|exact yh rfl rfl|exact yr rfl rfl|exact ym rfl rfl|exact yq rfl rfl|exact yk (by first | decide | assumption) rfl rfl)) | (guard_target =~ gY (.unOp .not _ _); exact zs rfl) | (guard_target =~ gY (.binOp .lss _ _ _ _); exact zc rfl rfl) | (guard_target =~ gY (.binOp .leq _ _ _ _); exact yz rfl rfl) | (guard_target =~ gY (.binOp .gtr _ _ _ _); exact yv rfl rfl) | (guard_target =~ gY (.binOp .geq _ _ _ _); exact yu rfl rfl) | (guard_target =~ gY (.binOp .add _ _ _ _); exact ya rfl rfl (by omega)) | (guard_target =~ gY (.binOp .sub _ _ _ _); exact zw rfl rfl (by omega)) | (guard_target =~ gY (.call _); (first| exact yx rfl|exact yy rfl)) | (guard_target =~ gY (.build _ _); exact yg rfl rfl) | (guard_target =~ gY (.indexAddr _ _ _); exact yw rfl rfl (by omega) (by omega))) ?_
          | refine WU.skip rfl rfl rfl ?_)
      | (guard_target =~ gW (.seq _ _); refine W.seq ?_)
      | (guard_target =~ gW (.region _ _ false); refine W.reg ?_)
      | (guard_target =~ gW (.cond _ _ _); first | refine W.cond_t rfl ?_ | refine W.cond_f rfl ?_)
      | (guard_target =~ gW (.block _ _); refine W.block ?_)
      | (guard_target =~ gW .skip; refine W.skip ?_)
      | (guard_target =~ gW (.exit _); refine W.exit ?_)
      | (guard_target =~ gW .ret; refine W.ret ?_)
      | (guard_target =~ gT .normal; refine thn_normal ?_)
      | (guard_target =~ gT (.exit _); refine thn_exit ?_)
      | (guard_target =~ gT .ret; refine thn_ret ?_)
      | (guard_target =~ gI .normal; refine inb_normal ?_)
      | (guard_target =~ gI (.exit _); first | refine inb_hit ?_ | refine inb_miss rfl ?_)
      | (guard_target =~ gI .ret; refine inb_ret ?_)))
  refine WU.stp rfl rfl rfl (stp_invoke rfl rfl (c_Und_slice b w1)) ?_
  rintro _ _ ⟨rfl, rfl⟩
  (repeat (first
      | (guard_target =~ gU _; first
          | (guard_target =~ gU []; first | refine WU.nilk ?_ | refine WU.nil ?_)
          | refine WU.yld rfl rfl rfl (by first | (guard_target =~ gY (.move _); exact ze rfl) | (guard_target =~ gY (.assign _); exact yf rfl) | (guard_target =~ gY (.load _ _); (first| exact za rfl rfl|exact zb rfl)) | (guard_target =~ gY (.fieldAddr _ _ _); exact yt rfl) | (guard_target =~ gY (.nilCheck _); (first| exact zq rfl|exact zr rfl)) | (guard_target =~ gY (.extract _ _); exact ys rfl rfl) | (guard_target =~ gY (.typeAssert _ _ _ true); (first| exact ye rfl rfl|exact yd rfl rfl (by first | rfl | assumption)|exact yc rfl rfl)) | (guard_target =~ gY (.typeAssert _ _ _ false); exact yb rfl rfl) | (guard_target =~ gY (.makeInterface _ _); exact zd rfl rfl) | (guard_target =~ gY (.pick _ _ _); (first| exact zv rfl rfl|exact zu rfl rfl|exact zt rfl rfl rfl)) | (guard_target =~ gY (.binOp .neq _ _ _ _); (first| exact zj rfl rfl|exact zn rfl rfl|exact zm rfl rfl|exact zg rfl rfl|exact zh rfl rfl|exact zl rfl rfl|exact zf rfl rfl|exact zp rfl rfl|exact zk rfl rfl|exact zo rfl rfl|exact zi (by first | decide | assumption) rfl rfl)) | (guard_target =~ gY (.binOp .eql _ _ _ _); (first| exact yl rfl rfl|exact yp rfl rfl|exact yo rfl rfl|exact yi rfl rfl|exact yj rfl rfl|exact yn rfl rfl|exact yh rfl rfl|exact yr rfl rfl|exact ym rfl rfl|exact yq rfl rfl|exact yk (by first | decide | assumption) rfl rfl)) | (guard_target =~ gY (.unOp .not _ _); exact zs rfl) | (guard_target =~ gY (.binOp .lss _ _ _ _); exact zc rfl rfl) | (guard_target =~ gY (.binOp .leq _ _ _ _); exact yz rfl rfl) | (guard_target =~ gY (.binOp .gtr _ _ _ _); exact yv rfl rfl) | (guard_target =~ gY (.binOp .geq _ _ _ _); exact yu rfl rfl) | (guard_target =~ gY (.binOp .add _ _ _ _); exact ya rfl rfl (by omega)) | (guard_target =~ gY (.binOp .sub _ _ _ _); exact zw rfl rfl (by omega)) | (guard_target =~ gY (.call _); (first| exact yx rfl|exact yy rfl)) | (guard_target =~ gY (.build _ _); exact yg rfl rfl) | (guard_target =~ gY (.indexAddr _ _ _); exact yw rfl rfl (by omega) (by omega))) ?_
          | refine WU.skip rfl rfl rfl ?_)
      | (guard_target =~ gW (.seq _ _); refine W.seq ?_)
      | (guard_target =~ gW (.region _ _ false); refine W.reg ?_)
      | (guard_target =~ gW (.cond _ _ _); first | refine W.cond_t rfl ?_ | refine W.cond_f rfl ?_)
      | (guard_target =~ gW (.block _ _); refine W.block ?_)
      | (guard_target =~ gW .skip; refine W.skip ?_)
      | (guard_target =~ gW (.exit _); refine W.exit ?_)
      | (guard_target =~ gW .ret; refine W.ret ?_)
      | (guard_target =~ gT .normal; refine thn_normal ?_)
      | (guard_target =~ gT (.exit _); refine thn_exit ?_)
      | (guard_target =~ gT .ret; refine thn_ret ?_)
      | (guard_target =~ gI .normal; refine inb_normal ?_)
      | (guard_target =~ gI (.exit _); first | refine inb_hit ?_ | refine inb_miss rfl ?_)
      | (guard_target =~ gI .ret; refine inb_ret ?_)))
  refine WU.stp rfl rfl rfl (stp_call rfl (c_typeErrorf _ _ _ _ w1)) ?_
  rintro _ w2 ⟨⟨k, rfl⟩, x2⟩
  (repeat (first
      | (guard_target =~ gU _; first
          | (guard_target =~ gU []; first | refine WU.nilk ?_ | refine WU.nil ?_)
          | refine WU.yld rfl rfl rfl (by first | (guard_target =~ gY (.move _); exact ze rfl) | (guard_target =~ gY (.assign _); exact yf rfl) | (guard_target =~ gY (.load _ _); (first| exact za rfl rfl|exact zb rfl)) | (guard_target =~ gY (.fieldAddr _ _ _); exact yt rfl) | (guard_target =~ gY (.nilCheck _); (first| exact zq rfl|exact zr rfl)) | (guard_target =~ gY (.extract _ _); exact ys rfl rfl) | (guard_target =~ gY (.typeAssert _ _ _ true); (first| exact ye rfl rfl|exact yd rfl rfl (by first | rfl | assumption)|exact yc rfl rfl)) | (guard_target =~ gY (.typeAssert _ _ _ false); exact yb rfl rfl) | (guard_target =~ gY (.makeInterface _ _); exact zd rfl rfl) | (guard_target =~ gY (.pick _ _ _); (first| exact zv rfl rfl|exact zu rfl rfl|exact zt rfl rfl rfl)) | (guard_target =~ gY (.binOp .neq _ _ _ _); (first| exact zj rfl rfl|exact zn rfl rfl|exact zm rfl rfl|exact zg rfl rfl|exact zh rfl rfl|exact zl rfl rfl|exact zf rfl rfl|exact zp rfl rfl|exact zk rfl rfl|exact zo rfl rfl|exact zi (by first | decide | assumption) rfl rfl)) | (guard_target =~ gY (.binOp .eql _ _ _ _); (first| exact yl rfl rfl|exact yp rfl rfl|exact yo rfl rfl|exact yi rfl rfl|exact yj rfl rfl|exact yn rfl rfl|exact yh rfl rfl|exact yr rfl rfl|exact ym rfl rfl|exact yq rfl rfl|exact yk (by first | decide | assumption) rfl rfl)) | (guard_target =~ gY (.unOp .not _ _); exact zs rfl) | (guard_target =~ gY (.binOp .lss _ _ _ _); exact zc rfl rfl) | (guard_target =~ gY (.binOp .leq _ _ _ _); exact yz rfl rfl) | (guard_target =~ gY (.binOp .gtr _ _ _ _); exact yv rfl rfl) | (guard_target =~ gY (.binOp .geq _ _ _ _); exact yu rfl rfl) | (guard_target =~ gY (.binOp .add _ _ _ _); exact ya rfl rfl (by omega)) | (guard_target =~ gY (.binOp .sub _ _ _ _); exact zw rfl rfl (by omega)) | (guard_target =~ gY (.call _); (first| exact yx rfl|exact yy rfl)) | (guard_target =~ gY (.build _ _); exact yg rfl rfl) | (guard_target =~ gY (.indexAddr _ _ _); exact yw rfl rfl (by omega) (by omega))) ?_
          | refine WU.skip rfl rfl rfl ?_)
      | (guard_target =~ gW (.seq _ _); refine W.seq ?_)
      | (guard_target =~ gW (.region _ _ false); refine W.reg ?_)
      | (guard_target =~ gW (.cond _ _ _); first | refine W.cond_t rfl ?_ | refine W.cond_f rfl ?_)
      | (guard_target =~ gW (.block _ _); refine W.block ?_)
      | (guard_target =~ gW .skip; refine W.skip ?_)
      | (guard_target =~ gW (.exit _); refine W.exit ?_)
      | (guard_target =~ gW .ret; refine W.ret ?_)
      | (guard_target =~ gT .normal; refine thn_normal ?_)
      | (guard_target =~ gT (.exit _); refine thn_exit ?_)
      | (guard_target =~ gT .ret; refine thn_ret ?_)
      | (guard_target =~ gI .normal; refine inb_normal ?_)
      | (guard_target =~ gI (.exit _); first | refine inb_hit ?_ | refine inb_miss rfl ?_)
      | (guard_target =~ gI .ret; refine inb_ret ?_)))
  exact fin1 (.inl rfl) rfl rfl ⟨.inr ⟨rfl, _, rfl⟩, x1.trans x2⟩

set_option maxHeartbeats 1000000 in
theorem ct_nl_array {w0 : World} {b : Nat} {m : Int} {v : Value} {q : Bool} (hp : Pl w0 b) (h1 : Has w0 b (.cells #[.int .i64 m, v] 84))
    (ih : ∀ (w' : World) (r' : Nat) (es' : Array MapEntry) (c' : Nat), Ext w0 w' → w0.heap.size ≤ r' → Has w' r' (.map (es'.push ⟨(.iface 58 (.pointer (some ⟨b, 0, none⟩))), .bool true, c'⟩) (c' + 1)) → es' = #[] →
      Calls Tryz.prog 40 #[v, .bool true, .map (some r')] w' (Ret fun r w'' => Rz r q ∧ Ext w0 w'')) :
    Calls Tryz.prog 40 #[(.iface 58 (.pointer (some ⟨b, 0, none⟩))), .bool true, .map none] w0 (Ret fun r w' => Rz r q ∧ Ext w0 w') := by
  refine W.enter (args := [(.iface 58 (.pointer (some ⟨b, 0, none⟩))), .bool true, .map none]) Tryz.func40 rfl Tryz.ntmps40 rfl rfl ?_
  (repeat (first
      | (guard_target =~ gU _; first
          | (guard_target =~ gU []; first | refine WU.nilk ?_ | refine WU.nil ?_)
          | refine WU.yld rfl rfl rfl (by first | (guard_target =~ gY (.move _); exact ze rfl) | (guard_target =~ gY (.assign _); exact yf rfl) | (guard_target =~ gY (.load _ _); (first| exact za rfl rfl|exact zb rfl)) | (guard_target =~ gY (.fieldAddr _ _ _); exact yt rfl) | (guard_target =~ gY (.nilCheck _); (first| exact zq rfl|exact zr rfl)) | (guard_target =~ gY (.extract _ _); exact ys rfl rfl) | (guard_target =~ gY (.typeAssert _ _ _ true); (first| exact ye rfl rfl|exact yd rfl rfl (by first | rfl | assumption)|exact yc rfl rfl)) | (guard_target =~ gY (.typeAssert _ _ _ false); exact yb rfl rfl) | (guard_target =~ gY (.makeInterface _ _); exact zd rfl rfl) | (guard_target =~ gY (.pick _ _ _); (first| exact zv rfl rfl|exact zu rfl rfl|exact zt rfl rfl rfl)) | (guard_target =~ gY (.binOp .neq _ _ _ _); (first| exact zj rfl rfl|exact zn rfl rfl|exact zm rfl rfl|exact zg rfl rfl|exact zh rfl rfl|exact zl rfl rfl|exact zf rfl rfl|exact zp rfl rfl|exact zk rfl rfl|exact zo rfl rfl|exact zi (by first | decide | assumption) rfl rfl)) | (guard_target =~ gY (.binOp .eql _ _ _ _); (first| exact yl rfl rfl|exact yp rfl rfl|exact yo rfl rfl|exact yi rfl rfl|exact yj rfl rfl|exact yn rfl rfl|exact yh rfl rfl|exact yr rfl rfl|exact ym rfl rfl|exact yq rfl rfl|exact yk (by first | decide | assumption) rfl rfl)) | (guard_target =~ gY (.unOp .not _ _); exact zs rfl) | (guard_target =~ gY (.binOp .lss _ _ _ _); exact zc rfl rfl) | (guard_target =~ gY (.binOp .leq _ _ _ _); exact yz rfl rfl) | (guard_target =~ gY (.binOp .gtr _ _ _ _); exact yv rfl rfl) | (guard_target =~ gY (.binOp .geq _ _ _ _); exact yu rfl rfl) | (guard_target =~ gY (.binOp .add _ _ _ _); exact ya rfl rfl (by omega)) | (guard_target =~ gY (.binOp .sub _ _ _ _); exact zw rfl rfl (by omega)) | (guard_target =~ gY (.call _); (first| exact yx rfl|exact yy rfl)) | (guard_target =~ gY (.build _ _); exact yg rfl rfl) | (guard_target =~ gY (.indexAddr _ _ _); exact yw rfl rfl (by omega) (by omega))) ?_
          | refine WU.skip rfl rfl rfl ?_)
      | (guard_target =~ gW (.seq _ _); refine W.seq ?_)
      | (guard_target =~ gW (.region _ _ false); refine W.reg ?_)
      | (guard_target =~ gW (.cond _ _ _); first | refine W.cond_t rfl ?_ | refine W.cond_f rfl ?_)
      | (guard_target =~ gW (.block _ _); refine W.block ?_)
      | (guard_target =~ gW .skip; refine W.skip ?_)
      | (guard_target =~ gW (.exit _); refine W.exit ?_)
      | (guard_target =~ gW .ret; refine W.ret ?_)
      | (guard_target =~ gT .normal; refine thn_normal ?_)
      | (guard_target =~ gT (.exit _); refine thn_exit ?_)
      | (guard_target =~ gT .ret; refine thn_ret ?_)
      | (guard_target =~ gI .normal; refine inb_normal ?_)
      | (guard_target =~ gI (.exit _); first | refine inb_hit ?_ | refine inb_miss rfl ?_)
      | (guard_target =~ gI .ret; refine inb_ret ?_)))
  refine WU.stp rfl rfl rfl (stp_lookup_nil rfl rfl) ?_
  rintro _ _ ⟨rfl, rfl⟩
  (repeat (first
      | (guard_target =~ gU _; first
          | (guard_target =~ gU []; first | refine WU.nilk ?_ | refine WU.nil ?_)
          | refine WU.yld rfl rfl rfl (by first | (guard_target =~ gY (.move _); exact ze rfl) | (guard_target =~ gY (.assign _); exact yf rfl) | (guard_target =~ gY (.load _ _); (first| exact za rfl rfl|exact zb rfl)) | (guard_target =~ gY (.fieldAddr _ _ _); exact yt rfl) | (guard_target =~ gY (.nilCheck _); (first| exact zq rfl|exact zr rfl)) | (guard_target =~ gY (.extract _ _); exact ys rfl rfl) | (guard_target =~ gY (.typeAssert _ _ _ true); (first| exact ye rfl rfl|exact yd rfl rfl (by first | rfl | assumption)|exact yc rfl rfl)) | (guard_target =~ gY (.typeAssert _ _ _ false); exact yb rfl rfl) | (guard_target =~ gY (.makeInterface _ _); exact zd rfl rfl) | (guard_target =~ gY (.pick _ _ _); (first| exact zv rfl rfl|exact zu rfl rfl|exact zt rfl rfl rfl)) | (guard_target =~ gY (.binOp .neq _ _ _ _); (first| exact zj rfl rfl|exact zn rfl rfl|exact zm rfl rfl|exact zg rfl rfl|exact zh rfl rfl|exact zl rfl rfl|exact zf rfl rfl|exact zp rfl rfl|exact zk rfl rfl|exact zo rfl rfl|exact zi (by first | decide | assumption) rfl rfl)) | (guard_target =~ gY (.binOp .eql _ _ _ _); (first| exact yl rfl rfl|exact yp rfl rfl|exact yo rfl rfl|exact yi rfl rfl|exact yj rfl rfl|exact yn rfl rfl|exact yh rfl rfl|exact yr rfl rfl|exact ym rfl rfl|exact yq rfl rfl|exact yk (by first | decide | assumption) rfl rfl)) | (guard_target =~ gY (.unOp .not _ _); exact zs rfl) | (guard_target =~ gY (.binOp .lss _ _ _ _); exact zc rfl rfl) | (guard_target =~ gY (.binOp .leq _ _ _ _); exact yz rfl rfl) | (guard_target =~ gY (.binOp .gtr _ _ _ _); exact yv rfl rfl) | (guard_target =~ gY (.binOp .geq _ _ _ _); exact yu rfl rfl) | (guard_target =~ gY (.binOp .add _ _ _ _); exact ya rfl rfl (by omega)) | (guard_target =~ gY (.binOp .sub _ _ _ _); exact zw rfl rfl (by omega)) | (guard_target =~ gY (.call _); (first| exact yx rfl|exact yy rfl)) | (guard_target =~ gY (.build _ _); exact yg rfl rfl) | (guard_target =~ gY (.indexAddr _ _ _); exact yw rfl rfl (by omega) (by omega))) ?_
          | refine WU.skip rfl rfl rfl ?_)
      | (guard_target =~ gW (.seq _ _); refine W.seq ?_)
      | (guard_target =~ gW (.region _ _ false); refine W.reg ?_)
      | (guard_target =~ gW (.cond _ _ _); first | refine W.cond_t rfl ?_ | refine W.cond_f rfl ?_)
      | (guard_target =~ gW (.block _ _); refine W.block ?_)
      | (guard_target =~ gW .skip; refine W.skip ?_)
      | (guard_target =~ gW (.exit _); refine W.exit ?_)
      | (guard_target =~ gW .ret; refine W.ret ?_)
      | (guard_target =~ gT .normal; refine thn_normal ?_)
      | (guard_target =~ gT (.exit _); refine thn_exit ?_)
      | (guard_target =~ gT .ret; refine thn_ret ?_)
      | (guard_target =~ gI .normal; refine inb_normal ?_)
      | (guard_target =~ gI (.exit _); first | refine inb_hit ?_ | refine inb_miss rfl ?_)
      | (guard_target =~ gI .ret; refine inb_ret ?_)))
  refine WU.stp rfl rfl rfl stp_makeMap ?_
  rintro _ wm ⟨r, rfl, nm1⟩
  have hle : w0.heap.size ≤ r := by have := nm1.num; omega
  (repeat (first
      | (guard_target =~ gU _; first
          | (guard_target =~ gU []; first | refine WU.nilk ?_ | refine WU.nil ?_)
          | refine WU.yld rfl rfl rfl (by first | (guard_target =~ gY (.move _); exact ze rfl) | (guard_target =~ gY (.assign _); exact yf rfl) | (guard_target =~ gY (.load _ _); (first| exact za rfl rfl|exact zb rfl)) | (guard_target =~ gY (.fieldAddr _ _ _); exact yt rfl) | (guard_target =~ gY (.nilCheck _); (first| exact zq rfl|exact zr rfl)) | (guard_target =~ gY (.extract _ _); exact ys rfl rfl) | (guard_target =~ gY (.typeAssert _ _ _ true); (first| exact ye rfl rfl|exact yd rfl rfl (by first | rfl | assumption)|exact yc rfl rfl)) | (guard_target =~ gY (.typeAssert _ _ _ false); exact yb rfl rfl) | (guard_target =~ gY (.makeInterface _ _); exact zd rfl rfl) | (guard_target =~ gY (.pick _ _ _); (first| exact zv rfl rfl|exact zu rfl rfl|exact zt rfl rfl rfl)) | (guard_target =~ gY (.binOp .neq _ _ _ _); (first| exact zj rfl rfl|exact zn rfl rfl|exact zm rfl rfl|exact zg rfl rfl|exact zh rfl rfl|exact zl rfl rfl|exact zf rfl rfl|exact zp rfl rfl|exact zk rfl rfl|exact zo rfl rfl|exact zi (by first | decide | assumption) rfl rfl)) | (guard_target =~ gY (.binOp .eql _ _ _ _); (first| exact yl rfl rfl|exact yp rfl rfl|exact yo rfl rfl|exact yi rfl rfl|exact yj rfl rfl|exact yn rfl rfl|exact yh rfl rfl|exact yr rfl rfl|exact ym rfl rfl|exact yq rfl rfl|exact yk (by first | decide | assumption) rfl rfl)) | (guard_target =~ gY (.unOp .not _ _); exact zs rfl) | (guard_target =~ gY (.binOp .lss _ _ _ _); exact zc rfl rfl) | (guard_target =~ gY (.binOp .leq _ _ _ _); exact yz rfl rfl) | (guard_target =~ gY (.binOp .gtr _ _ _ _); exact yv rfl rfl) | (guard_target =~ gY (.binOp .geq _ _ _ _); exact yu rfl rfl) | (guard_target =~ gY (.binOp .add _ _ _ _); exact ya rfl rfl (by omega)) | (guard_target =~ gY (.binOp .sub _ _ _ _); exact zw rfl rfl (by omega)) | (guard_target =~ gY (.call _); (first| exact yx rfl|exact yy rfl)) | (guard_target =~ gY (.build _ _); exact yg rfl rfl) | (guard_target =~ gY (.indexAddr _ _ _); exact yw rfl rfl (by omega) (by omega))) ?_
          | refine WU.skip rfl rfl rfl ?_)
      | (guard_target =~ gW (.seq _ _); refine W.seq ?_)
      | (guard_target =~ gW (.region _ _ false); refine W.reg ?_)
      | (guard_target =~ gW (.cond _ _ _); first | refine W.cond_t rfl ?_ | refine W.cond_f rfl ?_)
      | (guard_target =~ gW (.block _ _); refine W.block ?_)
      | (guard_target =~ gW .skip; refine W.skip ?_)
      | (guard_target =~ gW (.exit _); refine W.exit ?_)
      | (guard_target =~ gW .ret; refine W.ret ?_)
      | (guard_target =~ gT .normal; refine thn_normal ?_)
      | (guard_target =~ gT (.exit _); refine thn_exit ?_)
      | (guard_target =~ gT .ret; refine thn_ret ?_)
      | (guard_target =~ gI .normal; refine inb_normal ?_)
      | (guard_target =~ gI (.exit _); first | refine inb_hit ?_ | refine inb_miss rfl ?_)
      | (guard_target =~ gI .ret; refine inb_ret ?_)))
  refine WU.stp0 rfl rfl (stp_mapNew rfl rfl rfl nm1.has (hp.ext' nm1.ext) (by intro m hm; cases hm)) ?_
  rintro _ w1 u1
  have x1 : Ext w0 w1 := u1.ext nm1.ext hle
  (repeat (first
      | (guard_target =~ gU _; first
          | (guard_target =~ gU []; first | refine WU.nilk ?_ | refine WU.nil ?_)
          | refine WU.yld rfl rfl rfl (by first | (guard_target =~ gY (.move _); exact ze rfl) | (guard_target =~ gY (.assign _); exact yf rfl) | (guard_target =~ gY (.load _ _); (first| exact za rfl rfl|exact zb rfl)) | (guard_target =~ gY (.fieldAddr _ _ _); exact yt rfl) | (guard_target =~ gY (.nilCheck _); (first| exact zq rfl|exact zr rfl)) | (guard_target =~ gY (.extract _ _); exact ys rfl rfl) | (guard_target =~ gY (.typeAssert _ _ _ true); (first| exact ye rfl rfl|exact yd rfl rfl (by first | rfl | assumption)|exact yc rfl rfl)) | (guard_target =~ gY (.typeAssert _ _ _ false); exact yb rfl rfl) | (guard_target =~ gY (.makeInterface _ _); exact zd rfl rfl) | (guard_target =~ gY (.pick _ _ _); (first| exact zv rfl rfl|exact zu rfl rfl|exact zt rfl rfl rfl)) | (guard_target =~ gY (.binOp .neq _ _ _ _); (first| exact zj rfl rfl|exact zn rfl rfl|exact zm rfl rfl|exact zg rfl rfl|exact zh rfl rfl|exact zl rfl rfl|exact zf rfl rfl|exact zp rfl rfl|exact zk rfl rfl|exact zo rfl rfl|exact zi (by first | decide | assumption) rfl rfl)) | (guard_target =~ gY (.binOp .eql _ _ _ _); (first| exact yl rfl rfl|exact yp rfl rfl|exact yo rfl rfl|exact yi rfl rfl|exact yj rfl rfl|exact yn rfl rfl|exact yh rfl rfl|exact yr rfl rfl|exact ym rfl rfl|exact yq rfl rfl|exact yk (by first | decide | assumption) rfl rfl)) | (guard_target =~ gY (.unOp .not _ _); exact zs rfl) | (guard_target =~ gY (.binOp .lss _ _ _ _); exact zc rfl rfl) | (guard_target =~ gY (.binOp .leq _ _ _ _); exact yz rfl rfl) | (guard_target =~ gY (.binOp .gtr _ _ _ _); exact yv rfl rfl) | (guard_target =~ gY (.binOp .geq _ _ _ _); exact yu rfl rfl) | (guard_target =~ gY (.binOp .add _ _ _ _); exact ya rfl rfl (by omega)) | (guard_target =~ gY (.binOp .sub _ _ _ _); exact zw rfl rfl (by omega)) | (guard_target =~ gY (.call _); (first| exact yx rfl|exact yy rfl)) | (guard_target =~ gY (.build _ _); exact yg rfl rfl) | (guard_target =~ gY (.indexAddr _ _ _); exact yw rfl rfl (by omega) (by omega))) ?_
          | refine WU.skip rfl rfl rfl ?_)
      | (guard_target =~ gW (.seq _ _); refine W.seq ?_)
      | (guard_target =~ gW (.region _ _ false); refine W.reg ?_)
      | (guard_target =~ gW (.cond _ _ _); first | refine W.cond_t rfl ?_ | refine W.cond_f rfl ?_)
      | (guard_target =~ gW (.block _ _); refine W.block ?_)
      | (guard_target =~ gW .skip; refine W.skip ?_)
      | (guard_target =~ gW (.exit _); refine W.exit ?_)
      | (guard_target =~ gW .ret; refine W.ret ?_)
      | (guard_target =~ gT .normal; refine thn_normal ?_)
      | (guard_target =~ gT (.exit _); refine thn_exit ?_)
      | (guard_target =~ gT .ret; refine thn_ret ?_)
      | (guard_target =~ gI .normal; refine inb_normal ?_)
      | (guard_target =~ gI (.exit _); first | refine inb_hit ?_ | refine inb_miss rfl ?_)
      | (guard_target =~ gI .ret; refine inb_ret ?_)))
  refine WU.stp rfl rfl rfl (stp_invoke rfl rfl (c_Und_array b w1)) ?_
  rintro _ _ ⟨rfl, rfl⟩
  have i1 := h1.ext' x1
  (repeat (first
      | (guard_target =~ gU _; first
          | (guard_target =~ gU []; first | refine WU.nilk ?_ | refine WU.nil ?_)
          | refine WU.yld rfl rfl rfl (by first | (guard_target =~ gY (.move _); exact ze rfl) | (guard_target =~ gY (.assign _); exact yf rfl) | (guard_target =~ gY (.load _ _); (first| exact za rfl rfl|exact zb rfl)) | (guard_target =~ gY (.fieldAddr _ _ _); exact yt rfl) | (guard_target =~ gY (.nilCheck _); (first| exact zq rfl|exact zr rfl)) | (guard_target =~ gY (.extract _ _); exact ys rfl rfl) | (guard_target =~ gY (.typeAssert _ _ _ true); (first| exact ye rfl rfl|exact yd rfl rfl (by first | rfl | assumption)|exact yc rfl rfl)) | (guard_target =~ gY (.typeAssert _ _ _ false); exact yb rfl rfl) | (guard_target =~ gY (.makeInterface _ _); exact zd rfl rfl) | (guard_target =~ gY (.pick _ _ _); (first| exact zv rfl rfl|exact zu rfl rfl|exact zt rfl rfl rfl)) | (guard_target =~ gY (.binOp .neq _ _ _ _); (first| exact zj rfl rfl|exact zn rfl rfl|exact zm rfl rfl|exact zg rfl rfl|exact zh rfl rfl|exact zl rfl rfl|exact zf rfl rfl|exact zp rfl rfl|exact zk rfl rfl|exact zo rfl rfl|exact zi (by first | decide | assumption) rfl rfl)) | (guard_target =~ gY (.binOp .eql _ _ _ _); (first| exact yl rfl rfl|exact yp rfl rfl|exact yo rfl rfl|exact yi rfl rfl|exact yj rfl rfl|exact yn rfl rfl|exact yh rfl rfl|exact yr rfl rfl|exact ym rfl rfl|exact yq rfl rfl|exact yk (by first | decide | assumption) rfl rfl)) | (guard_target =~ gY (.unOp .not _ _); exact zs rfl) | (guard_target =~ gY (.binOp .lss _ _ _ _); exact zc rfl rfl) | (guard_target =~ gY (.binOp .leq _ _ _ _); exact yz rfl rfl) | (guard_target =~ gY (.binOp .gtr _ _ _ _); exact yv rfl rfl) | (guard_target =~ gY (.binOp .geq _ _ _ _); exact yu rfl rfl) | (guard_target =~ gY (.binOp .add _ _ _ _); exact ya rfl rfl (by omega)) | (guard_target =~ gY (.binOp .sub _ _ _ _); exact zw rfl rfl (by omega)) | (guard_target =~ gY (.call _); (first| exact yx rfl|exact yy rfl)) | (guard_target =~ gY (.build _ _); exact yg rfl rfl) | (guard_target =~ gY (.indexAddr _ _ _); exact yw rfl rfl (by omega) (by omega))) ?_
          | refine WU.skip rfl rfl rfl ?_)
      | (guard_target =~ gW (.seq _ _); refine W.seq ?_)
      | (guard_target =~ gW (.region _ _ false); refine W.reg ?_)
      | (guard_target =~ gW (.cond _ _ _); first | refine W.cond_t rfl ?_ | refine W.cond_f rfl ?_)
      | (guard_target =~ gW (.block _ _); refine W.block ?_)
      | (guard_target =~ gW .skip; refine W.skip ?_)
      | (guard_target =~ gW (.exit _); refine W.exit ?_)
      | (guard_target =~ gW .ret; refine W.ret ?_)
      | (guard_target =~ gT .normal; refine thn_normal ?_)
      | (guard_target =~ gT (.exit _); refine thn_exit ?_)
      | (guard_target =~ gT .ret; refine thn_ret ?_)
      | (guard_target =~ gI .normal; refine inb_normal ?_)
      | (guard_target =~ gI (.exit _); first | refine inb_hit ?_ | refine inb_miss rfl ?_)
      | (guard_target =~ gI .ret; refine inb_ret ?_)))
  refine WU.stp rfl rfl rfl (stp_call rfl (ih w1 r _ _ x1 hle u1.has rfl)) ?_
  rintro v2 w2 ⟨hv2, x2⟩
  rcases hv2 with ⟨rfl, rfl⟩ | ⟨rfl, k, rfl⟩
  · (repeat (first
      | (guard_target =~ gU _; first
          | (guard_target =~ gU []; first | refine WU.nilk ?_ | refine WU.nil ?_)
          | refine WU.yld rfl rfl rfl (by first | (guard_target =~ gY (.move _); exact ze rfl) | (guard_target =~ gY (.assign _); exact yf rfl) | (guard_target =~ gY (.load _ _); (first| exact za rfl rfl|exact zb rfl)) | (guard_target =~ gY (.fieldAddr _ _ _); exact yt rfl) | (guard_target =~ gY (.nilCheck _); (first| exact zq rfl|exact zr rfl)) | (guard_target =~ gY (.extract _ _); exact ys rfl rfl) | (guard_target =~ gY (.typeAssert _ _ _ true); (first| exact ye rfl rfl|exact yd rfl rfl (by first | rfl | assumption)|exact yc rfl rfl)) | (guard_target =~ gY (.typeAssert _ _ _ false); exact yb rfl rfl) | (guard_target =~ gY (.makeInterface _ _); exact zd rfl rfl) | (guard_target =~ gY (.pick _ _ _); (first| exact zv rfl rfl|exact zu rfl rfl|exact zt rfl rfl rfl)) | (guard_target =~ gY (.binOp .neq _ _ _ _); (first| exact zj rfl rfl|exact zn rfl rfl|exact zm rfl rfl|exact zg rfl rfl|exact zh rfl rfl|exact zl rfl rfl|exact zf rfl rfl|exact zp rfl rfl|exact zk rfl rfl|exact zo rfl rfl|exact zi (by first | decide | assumption) rfl rfl)) | (guard_target =~ gY (.binOp .eql _ _ _ _); (first| exact yl rfl rfl|exact yp rfl rfl|exact yo rfl rfl|exact yi rfl rfl|exact yj rfl rfl|exact yn rfl rfl|exact yh rfl rfl|exact yr rfl rfl|exact ym rfl rfl|exact yq rfl rfl|exact yk (by first | decide | assumption) rfl rfl)) | (guard_target =~ gY (.unOp .not _ _); exact zs rfl) | (guard_target =~ gY (.binOp .lss _ _ _ _); exact zc rfl rfl) | (guard_target =~ gY (.binOp .leq _ _ _ _); exact yz rfl rfl) | (guard_target =~ gY (.binOp .gtr _ _ _ _); exact yv rfl rfl) | (guard_target =~ gY (.binOp .geq _ _ _ _); exact yu rfl rfl) | (guard_target =~ gY (.binOp .add _ _ _ _); exact ya rfl rfl (by omega)) | (guard_target =~ gY (.binOp .sub _ _ _ _); exact zw rfl rfl (by omega)) | (guard_target =~ gY (.call _); (first| exact yx rfl|exact yy rfl)) | (guard_target =~ gY (.build _ _); exact yg rfl rfl) | (guard_target =~ gY (.indexAddr _ _ _); exact yw rfl rfl (by omega) (by omega))) ?_
          | refine WU.skip rfl rfl rfl ?_)
      | (guard_target =~ gW (.seq _ _); refine W.seq ?_)
      | (guard_target =~ gW (.region _ _ false); refine W.reg ?_)
      | (guard_target =~ gW (.cond _ _ _); first | refine W.cond_t rfl ?_ | refine W.cond_f rfl ?_)
      | (guard_target =~ gW (.block _ _); refine W.block ?_)
      | (guard_target =~ gW .skip; refine W.skip ?_)
      | (guard_target =~ gW (.exit _); refine W.exit ?_)
      | (guard_target =~ gW .ret; refine W.ret ?_)
      | (guard_target =~ gT .normal; refine thn_normal ?_)
      | (guard_target =~ gT (.exit _); refine thn_exit ?_)
      | (guard_target =~ gT .ret; refine thn_ret ?_)
      | (guard_target =~ gI .normal; refine inb_normal ?_)
      | (guard_target =~ gI (.exit _); first | refine inb_hit ?_ | refine inb_miss rfl ?_)
      | (guard_target =~ gI .ret; refine inb_ret ?_)))
    exact fin1 (.inl rfl) rfl rfl ⟨.inl ⟨rfl, rfl⟩, x2⟩
  · (repeat (first
      | (guard_target =~ gU _; first
          | (guard_target =~ gU []; first | refine WU.nilk ?_ | refine WU.nil ?_)
          | refine WU.yld rfl rfl rfl (by first | (guard_target =~ gY (.move _); exact ze rfl) | (guard_target =~ gY (.assign _); exact yf rfl) | (guard_target =~ gY (.load _ _); (first| exact za rfl rfl|exact zb rfl)) | (guard_target =~ gY (.fieldAddr _ _ _); exact yt rfl) | (guard_target =~ gY (.nilCheck _); (first| exact zq rfl|exact zr rfl)) | (guard_target =~ gY (.extract _ _); exact ys rfl rfl) | (guard_target =~ gY (.typeAssert _ _ _ true); (first| exact ye rfl rfl|exact yd rfl rfl (by first | rfl | assumption)|exact yc rfl rfl)) | (guard_target =~ gY (.typeAssert _ _ _ false); exact yb rfl rfl) | (guard_target =~ gY (.makeInterface _ _); exact zd rfl rfl) | (guard_target =~ gY (.pick _ _ _); (first| exact zv rfl rfl|exact zu rfl rfl|exact zt rfl rfl rfl)) | (guard_target =~ gY (.binOp .neq _ _ _ _); (first| exact zj rfl rfl|exact zn rfl rfl|exact zm rfl rfl|exact zg rfl rfl|exact zh rfl rfl|exact zl rfl rfl|exact zf rfl rfl|exact zp rfl rfl|exact zk rfl rfl|exact zo rfl rfl|exact zi (by first | decide | assumption) rfl rfl)) | (guard_target =~ gY (.binOp .eql _ _ _ _); (first| exact yl rfl rfl|exact yp rfl rfl|exact yo rfl rfl|exact yi rfl rfl|exact yj rfl rfl|exact yn rfl rfl|exact yh rfl rfl|exact yr rfl rfl|exact ym rfl rfl|exact yq rfl rfl|exact yk (by first | decide | assumption) rfl rfl)) | (guard_target =~ gY (.unOp .not _ _); exact zs rfl) | (guard_target =~ gY (.binOp .lss _ _ _ _); exact zc rfl rfl) | (guard_target =~ gY (.binOp .leq _ _ _ _); exact yz rfl rfl) | (guard_target =~ gY (.binOp .gtr _ _ _ _); exact yv rfl rfl) | (guard_target =~ gY (.binOp .geq _ _ _ _); exact yu rfl rfl) | (guard_target =~ gY (.binOp .add _ _ _ _); exact ya rfl rfl (by omega)) | (guard_target =~ gY (.binOp .sub _ _ _ _); exact zw rfl rfl (by omega)) | (guard_target =~ gY (.call _); (first| exact yx rfl|exact yy rfl)) | (guard_target =~ gY (.build _ _); exact yg rfl rfl) | (guard_target =~ gY (.indexAddr _ _ _); exact yw rfl rfl (by omega) (by omega))) ?_
          | refine WU.skip rfl rfl rfl ?_)
      | (guard_target =~ gW (.seq _ _); refine W.seq ?_)
      | (guard_target =~ gW (.region _ _ false); refine W.reg ?_)
      | (guard_target =~ gW (.cond _ _ _); first | refine W.cond_t rfl ?_ | refine W.cond_f rfl ?_)
      | (guard_target =~ gW (.block _ _); refine W.block ?_)
      | (guard_target =~ gW .skip; refine W.skip ?_)
      | (guard_target =~ gW (.exit _); refine W.exit ?_)
      | (guard_target =~ gW .ret; refine W.ret ?_)
      | (guard_target =~ gT .normal; refine thn_normal ?_)
      | (guard_target =~ gT (.exit _); refine thn_exit ?_)
      | (guard_target =~ gT .ret; refine thn_ret ?_)
      | (guard_target =~ gI .normal; refine inb_normal ?_)
      | (guard_target =~ gI (.exit _); first | refine inb_hit ?_ | refine inb_miss rfl ?_)
      | (guard_target =~ gI .ret; refine inb_ret ?_)))
    refine WU.stp rfl rfl rfl (stp_buildSlice rfl rfl rfl rfl rfl) ?_
    rintro _ w3 ⟨b3, rfl, n3⟩
    refine WU.stp rfl rfl rfl (stp_call rfl (c_typeErrorf _ _ _ _ w3)) ?_
    rintro _ w4 ⟨⟨k4, rfl⟩, x4⟩
    (repeat (first
        | (guard_target =~ gU _; first
            | (guard_target =~ gU []; first | refine WU.nilk ?_ | refine WU.nil ?_)
            | refine WU.yld rfl rfl rfl (by first | (guard_target =~ gY (.move _); exact ze rfl) | (guard_target =~ gY (.assign _); exact yf rfl) | (guard_target =~ gY (.load _ _); (first| exact za rfl rfl|exact zb rfl)) | (guard_target =~ gY (.fieldAddr _ _ _); exact yt rfl) | (guard_target =~ gY (.nilCheck _); (first| exact zq rfl|exact zr rfl)) | (guard_target =~ gY (.extract _ _); exact ys rfl rfl) | (guard_target =~ gY (.typeAssert _ _ _ true); (first| exact ye rfl rfl|exact yd rfl rfl (by first | rfl | assumption)|exact yc rfl rfl)) | (guard_target =~ gY (.typeAssert _ _ _ false); exact yb rfl rfl) | (guard_target =~ gY (.makeInterface _ _); exact zd rfl rfl) | (guard_target =~ gY (.pick _ _ _); (first| exact zv rfl rfl|exact zu rfl rfl|exact zt rfl rfl rfl)) | (guard_target =~ gY (.binOp .neq _ _ _ _); (first| exact zj rfl rfl|exact zn rfl rfl|exact zm rfl rfl|exact zg rfl rfl|exact zh rfl rfl|exact zl rfl rfl|exact zf rfl rfl|exact zp rfl rfl|exact zk rfl rfl|exact zo rfl rfl|exact zi (by first | decide | assumption) rfl rfl)) | (guard_target =~ gY (.binOp .eql _ _ _ _); (first| exact yl rfl rfl|exact yp rfl rfl|exact yo rfl rfl|exact yi rfl rfl|exact yj rfl rfl|exact yn rfl rfl|exact yh rfl rfl|exact yr rfl rfl|exact ym rfl rfl|exact yq rfl rfl|exact yk (by first | decide | assumption) rfl rfl)) | (guard_target =~ gY (.unOp .not _ _); exact zs rfl) | (guard_target =~ gY (.binOp .lss _ _ _ _); exact zc rfl rfl) | (guard_target =~ gY (.binOp .leq _ _ _ _); exact yz rfl rfl) | (guard_target =~ gY (.binOp .gtr _ _ _ _); exact yv rfl rfl) | (guard_target =~ gY (.binOp .geq _ _ _ _); exact yu rfl rfl) | (guard_target =~ gY (.binOp .add _ _ _ _); exact ya rfl rfl (by omega)) | (guard_target =~ gY (.binOp .sub _ _ _ _); exact zw rfl rfl (by omega)) | (guard_target =~ gY (.call _); (first| exact yx rfl|exact yy rfl)) | (guard_target =~ gY (.build _ _); exact yg rfl rfl) | (guard_target =~ gY (.indexAddr _ _ _); exact yw rfl rfl (by omega) (by omega))) ?_
            | refine WU.skip rfl rfl rfl ?_)
        | (guard_target =~ gW (.seq _ _); refine W.seq ?_)
        | (guard_target =~ gW (.region _ _ false); refine W.reg ?_)
        | (guard_target =~ gW (.cond _ _ _); first | refine W.cond_t rfl ?_ | refine W.cond_f rfl ?_)
        | (guard_target =~ gW (.block _ _); refine W.block ?_)
        | (guard_target =~ gW .skip; refine W.skip ?_)
        | (guard_target =~ gW (.exit _); refine W.exit ?_)
        | (guard_target =~ gW .ret; refine W.ret ?_)
        | (guard_target =~ gT .normal; refine thn_normal ?_)
        | (guard_target =~ gT (.exit _); refine thn_exit ?_)
        | (guard_target =~ gT .ret; refine thn_ret ?_)
        | (guard_target =~ gI .normal; refine inb_normal ?_)
        | (guard_target =~ gI (.exit _); first | refine inb_hit ?_ | refine inb_miss rfl ?_)
        | (guard_target =~ gI .ret; refine inb_ret ?_)))
    exact fin1 (.inl rfl) rfl rfl ⟨.inr ⟨rfl, _, rfl⟩, x2.trans (n3.ext.trans x4)⟩

set_option maxHeartbeats 1000000 in
theorem ct_nl_chan {w0 : World} {b : Nat}  (hp : Pl w0 b)  :
    Calls Tryz.prog 40 #[(.iface 60 (.pointer (some ⟨b, 0, none⟩))), .bool true, .map none] w0 (Ret fun r w' => Rz r true ∧ Ext w0 w') := by
  refine W.enter (args := [(.iface 60 (.pointer (some ⟨b, 0, none⟩))), .bool true, .map none]) Tryz.func40 rfl Tryz.ntmps40 rfl rfl ?_
  (repeat (first
      | (guard_target =~ gU _; first
          | (guard_target =~ gU []; first | refine WU.nilk ?_ | refine WU.nil ?_)
          | refine WU.yld rfl rfl rfl (by first | (guard_target =~ gY (.move _); exact ze rfl) | (guard_target =~ gY (.assign _); exact yf rfl) | (guard_target =~ gY (.load _ _); (first| exact za rfl rfl|exact zb rfl)) | (guard_target =~ gY (.fieldAddr _ _ _); exact yt rfl) | (guard_target =~ gY (.nilCheck _); (first| exact zq rfl|exact zr rfl)) | (guard_target =~ gY (.extract _ _); exact ys rfl rfl) | (guard_target =~ gY (.typeAssert _ _ _ true); (first| exact ye rfl rfl|exact yd rfl rfl (by first | rfl | assumption)|exact yc rfl rfl)) | (guard_target =~ gY (.typeAssert _ _ _ false); exact yb rfl rfl) | (guard_target =~ gY (.makeInterface _ _); exact zd rfl rfl) | (guard_target =~ gY (.pick _ _ _); (first| exact zv rfl rfl|exact zu rfl rfl|exact zt rfl rfl rfl)) | (guard_target =~ gY (.binOp .neq _ _ _ _); (first| exact zj rfl rfl|exact zn rfl rfl|exact zm rfl rfl|exact zg rfl rfl|exact zh rfl rfl|exact zl rfl rfl|exact zf rfl rfl|exact zp rfl rfl|exact zk rfl rfl|exact zo rfl rfl|exact zi (by first | decide | assumption) rfl rfl)) | (guard_target =~ gY (.binOp .eql _ _ _ _); (first| exact yl rfl rfl|exact yp rfl rfl|exact yo rfl rfl|exact yi rfl rfl|exact yj rfl rfl|exact yn rfl rfl|exact yh rfl rfl|exact yr rfl rfl|exact ym rfl rfl|exact yq rfl rfl|exact yk (by first | decide | assumption) rfl rfl)) | (guard_target =~ gY (.unOp .not _ _); exact zs rfl) | (guard_target =~ gY (.binOp .lss _ _ _ _); exact zc rfl rfl) | (guard_target =~ gY (.binOp .leq _ _ _ _); exact yz rfl rfl) | (guard_target =~ gY (.binOp .gtr _ _ _ _); exact yv rfl rfl) | (guard_target =~ gY (.binOp .geq _ _ _ _); exact yu rfl rfl) | (guard_target =~ gY (.binOp .add _ _ _ _); exact ya rfl rfl (by omega)) | (guard_target =~ gY (.binOp .sub _ _ _ _); exact zw rfl rfl (by omega)) | (guard_target =~ gY (.call _); (first| exact yx rfl|exact yy rfl)) | (guard_target =~ gY (.build _ _); exact yg rfl rfl) | (guard_target =~ gY (.indexAddr _ _ _); exact yw rfl rfl (by omega) (by omega))) ?_
          | refine WU.skip rfl rfl rfl ?_)
      | (guard_target =~ gW (.seq _ _); refine W.seq ?_)
      | (guard_target =~ gW (.region _ _ false); refine W.reg ?_)
      | (guard_target =~ gW (.cond _ _ _); first | refine W.cond_t rfl ?_ | refine W.cond_f rfl ?_)
      | (guard_target =~ gW (.block _ _); refine W.block ?_)
      | (guard_target =~ gW .skip; refine W.skip ?_)
      | (guard_target =~ gW (.exit _); refine W.exit ?_)
      | (guard_target =~ gW .ret; refine W.ret ?_)
      | (guard_target =~ gT .normal; refine thn_normal ?_)
      | (guard_target =~ gT (.exit _); refine thn_exit ?_)
      | (guard_target =~ gT .ret; refine thn_ret ?_)
      | (guard_target =~ gI .normal; refine inb_normal ?_)
      | (guard_target =~ gI (.exit _); first | refine inb_hit ?_ | refine inb_miss rfl ?_)
      | (guard_target =~ gI .ret; refine inb_ret ?_)))
  refine WU.stp rfl rfl rfl (stp_lookup_nil rfl rfl) ?_
  rintro _ _ ⟨rfl, rfl⟩
  (repeat (first
      | (guard_target =~ gU _; first
          | (guard_target =~ gU []; first | refine WU.nilk ?_ | refine WU.nil ?_)
          | refine WU.yld rfl rfl rfl (by first | (guard_target =~ gY (.move _); exact ze rfl) | (guard_target =~ gY (.assign _); exact yf rfl) | (guard_target =~ gY (.load _ _); (first| exact za rfl rfl|exact zb rfl)) | (guard_target =~ gY (.fieldAddr _ _ _); exact yt rfl) | (guard_target =~ gY (.nilCheck _); (first| exact zq rfl|exact zr rfl)) | (guard_target =~ gY (.extract _ _); exact ys rfl rfl) | (guard_target =~ gY (.typeAssert _ _ _ true); (first| exact ye rfl rfl|exact yd rfl rfl (by first | rfl | assumption)|exact yc rfl rfl)) | (guard_target =~ gY (.typeAssert _ _ _ false); exact yb rfl rfl) | (guard_target =~ gY (.makeInterface _ _); exact zd rfl rfl) | (guard_target =~ gY (.pick _ _ _); (first| exact zv rfl rfl|exact zu rfl rfl|exact zt rfl rfl rfl)) | (guard_target =~ gY (.binOp .neq _ _ _ _); (first| exact zj rfl rfl|exact zn rfl rfl|exact zm rfl rfl|exact zg rfl rfl|exact zh rfl rfl|exact zl rfl rfl|exact zf rfl rfl|exact zp rfl rfl|exact zk rfl rfl|exact zo rfl rfl|exact zi (by first | decide | assumption) rfl rfl)) | (guard_target =~ gY (.binOp .eql _ _ _ _); (first| exact yl rfl rfl|exact yp rfl rfl|exact yo rfl rfl|exact yi rfl rfl|exact yj rfl rfl|exact yn rfl rfl|exact yh rfl rfl|exact yr rfl rfl|exact ym rfl rfl|exact yq rfl rfl|exact yk (by first | decide | assumption) rfl rfl)) | (guard_target =~ gY (.unOp .not _ _); exact zs rfl) | (guard_target =~ gY (.binOp .lss _ _ _ _); exact zc rfl rfl) | (guard_target =~ gY (.binOp .leq _ _ _ _); exact yz rfl rfl) | (guard_target =~ gY (.binOp .gtr _ _ _ _); exact yv rfl rfl) | (guard_target =~ gY (.binOp .geq _ _ _ _); exact yu rfl rfl) | (guard_target =~ gY (.binOp .add _ _ _ _); exact ya rfl rfl (by omega)) | (guard_target =~ gY (.binOp .sub _ _ _ _); exact zw rfl rfl (by omega)) | (guard_target =~ gY (.call _); (first| exact yx rfl|exact yy rfl)) | (guard_target =~ gY (.build _ _); exact yg rfl rfl) | (guard_target =~ gY (.indexAddr _ _ _); exact yw rfl rfl (by omega) (by omega))) ?_
          | refine WU.skip rfl rfl rfl ?_)
      | (guard_target =~ gW (.seq _ _); refine W.seq ?_)
      | (guard_target =~ gW (.region _ _ false); refine W.reg ?_)
      | (guard_target =~ gW (.cond _ _ _); first | refine W.cond_t rfl ?_ | refine W.cond_f rfl ?_)
      | (guard_target =~ gW (.block _ _); refine W.block ?_)
      | (guard_target =~ gW .skip; refine W.skip ?_)
      | (guard_target =~ gW (.exit _); refine W.exit ?_)
      | (guard_target =~ gW .ret; refine W.ret ?_)
      | (guard_target =~ gT .normal; refine thn_normal ?_)
      | (guard_target =~ gT (.exit _); refine thn_exit ?_)
      | (guard_target =~ gT .ret; refine thn_ret ?_)
      | (guard_target =~ gI .normal; refine inb_normal ?_)
      | (guard_target =~ gI (.exit _); first | refine inb_hit ?_ | refine inb_miss rfl ?_)
      | (guard_target =~ gI .ret; refine inb_ret ?_)))
  refine WU.stp rfl rfl rfl stp_makeMap ?_
  rintro _ wm ⟨r, rfl, nm1⟩
  have hle : w0.heap.size ≤ r := by have := nm1.num; omega
  (repeat (first
      | (guard_target =~ gU _; first
          | (guard_target =~ gU []; first | refine WU.nilk ?_ | refine WU.nil ?_)
          | refine WU.yld rfl rfl rfl (by first | (guard_target =~ gY (.move _); exact ze rfl) | (guard_target =~ gY (.assign _); exact yf rfl) | (guard_target =~ gY (.load _ _); (first| exact za rfl rfl|exact zb rfl)) | (guard_target =~ gY (.fieldAddr _ _ _); exact yt rfl) | (guard_target =~ gY (.nilCheck _); (first| exact zq rfl|exact zr rfl)) | (guard_target =~ gY (.extract _ _); exact ys rfl rfl) | (guard_target =~ gY (.typeAssert _ _ _ true); (first| exact ye rfl rfl|exact yd rfl rfl (by first | rfl | assumption)|exact yc rfl rfl)) | (guard_target =~ gY (.typeAssert _ _ _ false); exact yb rfl rfl) | (guard_target =~ gY (.makeInterface _ _); exact zd rfl rfl) | (guard_target =~ gY (.pick _ _ _); (first| exact zv rfl rfl|exact zu rfl rfl|exact zt rfl rfl rfl)) | (guard_target =~ gY (.binOp .neq _ _ _ _); (first| exact zj rfl rfl|exact zn rfl rfl|exact zm rfl rfl|exact zg rfl rfl|exact zh rfl rfl|exact zl rfl rfl|exact zf rfl rfl|exact zp rfl rfl|exact zk rfl rfl|exact zo rfl rfl|exact zi (by first | decide | assumption) rfl rfl)) | (guard_target =~ gY (.binOp .eql _ _ _ _); (first| exact yl rfl rfl|exact yp rfl rfl|exact yo rfl rfl|exact yi rfl rfl|exact yj rfl rfl|exact yn rfl rfl|exact yh rfl rfl|exact yr rfl rfl|exact ym rfl rfl|exact yq rfl rfl|exact yk (by first | decide | assumption) rfl rfl)) | (guard_target =~ gY (.unOp .not _ _); exact zs rfl) | (guard_target =~ gY (.binOp .lss _ _ _ _); exact zc rfl rfl) | (guard_target =~ gY (.binOp .leq _ _ _ _); exact yz rfl rfl) | (guard_target =~ gY (.binOp .gtr _ _ _ _); exact yv rfl rfl) | (guard_target =~ gY (.binOp .geq _ _ _ _); exact yu rfl rfl) | (guard_target =~ gY (.binOp .add _ _ _ _); exact ya rfl rfl (by omega)) | (guard_target =~ gY (.binOp .sub _ _ _ _); exact zw rfl rfl (by omega)) | (guard_target =~ gY (.call _); (first| exact yx rfl|exact yy rfl)) | (guard_target =~ gY (.build _ _); exact yg rfl rfl) | (guard_target =~ gY (.indexAddr _ _ _); exact yw rfl rfl (by omega) (by omega))) ?_
          | refine WU.skip rfl rfl rfl ?_)
      | (guard_target =~ gW (.seq _ _); refine W.seq ?_)
      | (guard_target =~ gW (.region _ _ false); refine W.reg ?_)
      | (guard_target =~ gW (.cond _ _ _); first | refine W.cond_t rfl ?_ | refine W.cond_f rfl ?_)
      | (guard_target =~ gW (.block _ _); refine W.block ?_)
      | (guard_target =~ gW .skip; refine W.skip ?_)
      | (guard_target =~ gW (.exit _); refine W.exit ?_)
      | (guard_target =~ gW .ret; refine W.ret ?_)
      | (guard_target =~ gT .normal; refine thn_normal ?_)
      | (guard_target =~ gT (.exit _); refine thn_exit ?_)
      | (guard_target =~ gT .ret; refine thn_ret ?_)
      | (guard_target =~ gI .normal; refine inb_normal ?_)
      | (guard_target =~ gI (.exit _); first | refine inb_hit ?_ | refine inb_miss rfl ?_)
      | (guard_target =~ gI .ret; refine inb_ret ?_)))
  refine WU.stp0 rfl rfl (stp_mapNew rfl rfl rfl nm1.has (hp.ext' nm1.ext) (by intro m hm; cases hm)) ?_
  rintro _ w1 u1
  have x1 : Ext w0 w1 := u1.ext nm1.ext hle
  (repeat (first
      | (guard_target =~ gU _; first
          | (guard_target =~ gU []; first | refine WU.nilk ?_ | refine WU.nil ?_)
          | refine WU.yld rfl rfl rfl (by first | (guard_target =~ gY (.move _); exact ze rfl) | (guard_target =~ gY (.assign _); exact yf rfl) | (guard_target =~ gY (.load _ _); (first| exact za rfl rfl|exact zb rfl)) | (guard_target =~ gY (.fieldAddr _ _ _); exact yt rfl) | (guard_target =~ gY (.nilCheck _); (first| exact zq rfl|exact zr rfl)) | (guard_target =~ gY (.extract _ _); exact ys rfl rfl) | (guard_target =~ gY (.typeAssert _ _ _ true); (first| exact ye rfl rfl|exact yd rfl rfl (by first | rfl | assumption)|exact yc rfl rfl)) | (guard_target =~ gY (.typeAssert _ _ _ false); exact yb rfl rfl) | (guard_target =~ gY (.makeInterface _ _); exact zd rfl rfl) | (guard_target =~ gY (.pick _ _ _); (first| exact zv rfl rfl|exact zu rfl rfl|exact zt rfl rfl rfl)) | (guard_target =~ gY (.binOp .neq _ _ _ _); (first| exact zj rfl rfl|exact zn rfl rfl|exact zm rfl rfl|exact zg rfl rfl|exact zh rfl rfl|exact zl rfl rfl|exact zf rfl rfl|exact zp rfl rfl|exact zk rfl rfl|exact zo rfl rfl|exact zi (by first | decide | assumption) rfl rfl)) | (guard_target =~ gY (.binOp .eql _ _ _ _); (first| exact yl rfl rfl|exact yp rfl rfl|exact yo rfl rfl|exact yi rfl rfl|exact yj rfl rfl|exact yn rfl rfl|exact yh rfl rfl|exact yr rfl rfl|exact ym rfl rfl|exact yq rfl rfl|exact yk (by first | decide | assumption) rfl rfl)) | (guard_target =~ gY (.unOp .not _ _); exact zs rfl) | (guard_target =~ gY (.binOp .lss _ _ _ _); exact zc rfl rfl) | (guard_target =~ gY (.binOp .leq _ _ _ _); exact yz rfl rfl) | (guard_target =~ gY (.binOp .gtr _ _ _ _); exact yv rfl rfl) | (guard_target =~ gY (.binOp .geq _ _ _ _); exact yu rfl rfl) | (guard_target =~ gY (.binOp .add _ _ _ _); exact ya rfl rfl (by omega)) | (guard_target =~ gY (.binOp .sub _ _ _ _); exact zw rfl rfl (by omega)) | (guard_target =~ gY (.call _); (first| exact yx rfl|exact yy rfl)) | (guard_target =~ gY (.build _ _); exact yg rfl rfl) | (guard_target =~ gY (.indexAddr _ _ _); exact yw rfl rfl (by omega) (by omega))) ?_
          | refine WU.skip rfl rfl rfl ?_)
      | (guard_target =~ gW (.seq _ _); refine W.seq ?_)
      | (guard_target =~ gW (.region _ _ false); refine W.reg ?_)
      | (guard_target =~ gW (.cond _ _ _); first | refine W.cond_t rfl ?_ | refine W.cond_f rfl ?_)
      | (guard_target =~ gW (.block _ _); refine W.block ?_)
      | (guard_target =~ gW .skip; refine W.skip ?_)
      | (guard_target =~ gW (.exit _); refine W.exit ?_)
      | (guard_target =~ gW .ret; refine W.ret ?_)
      | (guard_target =~ gT .normal; refine thn_normal ?_)
      | (guard_target =~ gT (.exit _); refine thn_exit ?_)
      | (guard_target =~ gT .ret; refine thn_ret ?_)
      | (guard_target =~ gI .normal; refine inb_normal ?_)
      | (guard_target =~ gI (.exit _); first | refine inb_hit ?_ | refine inb_miss rfl ?_)
      | (guard_target =~ gI .ret; refine inb_ret ?_)))
  refine WU.stp rfl rfl rfl (stp_invoke rfl rfl (c_Und_chan b w1)) ?_
  rintro _ _ ⟨rfl, rfl⟩
  (repeat (first
      | (guard_target =~ gU _; first
          | (guard_target =~ gU []; first | refine WU.nilk ?_ | refine WU.nil ?_)
          | refine WU.yld rfl rfl rfl (by first | (guard_target =~ gY (.move _); exact ze rfl) | (guard_target =~ gY (.assign _); exact yf rfl) | (guard_target =~ gY (.load _ _); (first| exact za rfl rfl|exact zb rfl)) | (guard_target =~ gY (.fieldAddr _ _ _); exact yt rfl) | (guard_target =~ gY (.nilCheck _); (first| exact zq rfl|exact zr rfl)) | (guard_target =~ gY (.extract _ _); exact ys rfl rfl) | (guard_target =~ gY (.typeAssert _ _ _ true); (first| exact ye rfl rfl|exact yd rfl rfl (by first | rfl | assumption)|exact yc rfl rfl)) | (guard_target =~ gY (.typeAssert _ _ _ false); exact yb rfl rfl) | (guard_target =~ gY (.makeInterface _ _); exact zd rfl rfl) | (guard_target =~ gY (.pick _ _ _); (first| exact zv rfl rfl|exact zu rfl rfl|exact zt rfl rfl rfl)) | (guard_target =~ gY (.binOp .neq _ _ _ _); (first| exact zj rfl rfl|exact zn rfl rfl|exact zm rfl rfl|exact zg rfl rfl|exact zh rfl rfl|exact zl rfl rfl|exact zf rfl rfl|exact zp rfl rfl|exact zk rfl rfl|exact zo rfl rfl|exact zi (by first | decide | assumption) rfl rfl)) | (guard_target =~ gY (.binOp .eql _ _ _ _); (first| exact yl rfl rfl|exact yp rfl rfl|exact yo rfl rfl|exact yi rfl rfl|exact yj rfl rfl|exact yn rfl rfl|exact yh rfl rfl|exact yr rfl rfl|exact ym rfl rfl|exact yq rfl rfl|exact yk (by first | decide | assumption) rfl rfl)) | (guard_target =~ gY (.unOp .not _ _); exact zs rfl) | (guard_target =~ gY (.binOp .lss _ _ _ _); exact zc rfl rfl) | (guard_target =~ gY (.binOp .leq _ _ _ _); exact yz rfl rfl) | (guard_target =~ gY (.binOp .gtr _ _ _ _); exact yv rfl rfl) | (guard_target =~ gY (.binOp .geq _ _ _ _); exact yu rfl rfl) | (guard_target =~ gY (.binOp .add _ _ _ _); exact ya rfl rfl (by omega)) | (guard_target =~ gY (.binOp .sub _ _ _ _); exact zw rfl rfl (by omega)) | (guard_target =~ gY (.call _); (first| exact yx rfl|exact yy rfl)) | (guard_target =~ gY (.build _ _); exact yg rfl rfl) | (guard_target =~ gY (.indexAddr _ _ _); exact yw rfl rfl (by omega) (by omega))) ?_
          | refine WU.skip rfl rfl rfl ?_)
      | (guard_target =~ gW (.seq _ _); refine W.seq ?_)
      | (guard_target =~ gW (.region _ _ false); refine W.reg ?_)
      | (guard_target =~ gW (.cond _ _ _); first | refine W.cond_t rfl ?_ | refine W.cond_f rfl ?_)
      | (guard_target =~ gW (.block _ _); refine W.block ?_)
      | (guard_target =~ gW .skip; refine W.skip ?_)
      | (guard_target =~ gW (.exit _); refine W.exit ?_)
      | (guard_target =~ gW .ret; refine W.ret ?_)
      | (guard_target =~ gT .normal; refine thn_normal ?_)
      | (guard_target =~ gT (.exit _); refine thn_exit ?_)
      | (guard_target =~ gT .ret; refine thn_ret ?_)
      | (guard_target =~ gI .normal; refine inb_normal ?_)
      | (guard_target =~ gI (.exit _); first | refine inb_hit ?_ | refine inb_miss rfl ?_)
      | (guard_target =~ gI .ret; refine inb_ret ?_)))
  exact fin1 (.inl rfl) rfl rfl ⟨.inl ⟨rfl, rfl⟩, x1⟩

set_option maxHeartbeats 1000000 in
theorem ct_nl_map {w0 : World} {b : Nat}  (hp : Pl w0 b)  :
    Calls Tryz.prog 40 #[(.iface 64 (.pointer (some ⟨b, 0, none⟩))), .bool true, .map none] w0 (Ret fun r w' => Rz r false ∧ Ext w0 w') := by
  refine W.enter (args := [(.iface 64 (.pointer (some ⟨b, 0, none⟩))), .bool true, .map none]) Tryz.func40 rfl Tryz.ntmps40 rfl rfl ?_
  (repeat (first
      | (guard_target =~ gU _; first
          | (guard_target =~ gU []; first | refine WU.nilk ?_ | refine WU.nil ?_)
          | refine WU.yld rfl rfl rfl (by first | (guard_target =~ gY (.move _); exact ze rfl) | (guard_target =~ gY (.assign _); exact yf rfl) | (guard_target =~ gY (.load _ _); (first| exact za rfl rfl|exact zb rfl)) | (guard_target =~ gY (.fieldAddr _ _ _); exact yt rfl) | (guard_target =~ gY (.nilCheck _); (first| exact zq rfl|exact zr rfl)) | (guard_target =~ gY (.extract _ _); exact ys rfl rfl) | (guard_target =~ gY (.typeAssert _ _ _ true); (first| exact ye rfl rfl|exact yd rfl rfl (by first | rfl | assumption)|exact yc rfl rfl)) | (guard_target =~ gY (.typeAssert _ _ _ false); exact yb rfl rfl) | (guard_target =~ gY (.makeInterface _ _); exact zd rfl rfl) | (guard_target =~ gY (.pick _ _ _); (first| exact zv rfl rfl|exact zu rfl rfl|exact zt rfl rfl rfl)) | (guard_target =~ gY (.binOp .neq _ _ _ _); (first| exact zj rfl rfl|exact zn rfl rfl|exact zm rfl rfl|exact zg rfl rfl|exact zh rfl rfl|exact zl rfl rfl|exact zf rfl rfl|exact zp rfl rfl|exact zk rfl rfl|exact zo rfl rfl|exact zi (by first | decide | assumption) rfl rfl)) | (guard_target =~ gY (.binOp .eql _ _ _ _); (first| exact yl rfl rfl|exact yp rfl rfl|exact yo rfl rfl|exact yi rfl rfl|exact yj rfl rfl|exact yn rfl rfl|exact yh rfl rfl|exact yr rfl rfl|exact ym rfl rfl|exact yq rfl rfl|exact yk (by first | decide | assumption) rfl rfl)) | (guard_target =~ gY (.unOp .not _ _); exact zs rfl) | (guard_target =~ gY (.binOp .lss _ _ _ _); exact zc rfl rfl) | (guard_target =~ gY (.binOp .leq _ _ _ _); exact yz rfl rfl) | (guard_target =~ gY (.binOp .gtr _ _ _ _); exact yv rfl rfl) | (guard_target =~ gY (.binOp .geq _ _ _ _); exact yu rfl rfl) | (guard_target =~ gY (.binOp .add _ _ _ _); exact ya rfl rfl (by omega)) | (guard_target =~ gY (.binOp .sub _ _ _ _); exact zw rfl rfl (by omega)) | (guard_target =~ gY (.call _); (first| exact yx rfl|exact yy rfl)) | (guard_target =~ gY (.build _ _); exact yg rfl rfl) | (guard_target =~ gY (.indexAddr _ _ _); exact yw rfl rfl (by omega) (by omega))) ?_
          | refine WU.skip rfl rfl rfl ?_)
      | (guard_target =~ gW (.seq _ _); refine W.seq ?_)
      | (guard_target =~ gW (.region _ _ false); refine W.reg ?_)
      | (guard_target =~ gW (.cond _ _ _); first | refine W.cond_t rfl ?_ | refine W.cond_f rfl ?_)
      | (guard_target =~ gW (.block _ _); refine W.block ?_)
      | (guard_target =~ gW .skip; refine W.skip ?_)
      | (guard_target =~ gW (.exit _); refine W.exit ?_)
      | (guard_target =~ gW .ret; refine W.ret ?_)
      | (guard_target =~ gT .normal; refine thn_normal ?_)
      | (guard_target =~ gT (.exit _); refine thn_exit ?_)
      | (guard_target =~ gT .ret; refine thn_ret ?_)
      | (guard_target =~ gI .normal; refine inb_normal ?_)
      | (guard_target =~ gI (.exit _); first | refine inb_hit ?_ | refine inb_miss rfl ?_)
      | (guard_target =~ gI .ret; refine inb_ret ?_)))
  refine WU.stp rfl rfl rfl (stp_lookup_nil rfl rfl) ?_
  rintro _ _ ⟨rfl, rfl⟩
  (repeat (first
      | (guard_target =~ gU _; first
          | (guard_target =~ gU []; first | refine WU.nilk ?_ | refine WU.nil ?_)
          | refine WU.yld rfl rfl rfl (by first | (guard_target =~ gY (.move _); exact ze rfl) | (guard_target =~ gY (.assign _); exact yf rfl) | (guard_target =~ gY (.load _ _); (first| exact za rfl rfl|exact zb rfl)) | (guard_target =~ gY (.fieldAddr _ _ _); exact yt rfl) | (guard_target =~ gY (.nilCheck _); (first| exact zq rfl|exact zr rfl)) | (guard_target =~ gY (.extract _ _); exact ys rfl rfl) | (guard_target =~ gY (.typeAssert _ _ _ true); (first| exact ye rfl rfl|exact yd rfl rfl (by first | rfl | assumption)|exact yc rfl rfl)) | (guard_target =~ gY (.typeAssert _ _ _ false); exact yb rfl rfl) | (guard_target =~ gY (.makeInterface _ _); exact zd rfl rfl) | (guard_target =~ gY (.pick _ _ _); (first| exact zv rfl rfl|exact zu rfl rfl|exact zt rfl rfl rfl)) | (guard_target =~ gY (.binOp .neq _ _ _ _); (first| exact zj rfl rfl|exact zn rfl rfl|exact zm rfl rfl|exact zg rfl rfl|exact zh rfl rfl|exact zl rfl rfl|exact zf rfl rfl|exact zp rfl rfl|exact zk rfl rfl|exact zo rfl rfl|exact zi (by first | decide | assumption) rfl rfl)) | (guard_target =~ gY (.binOp .eql _ _ _ _); (first| exact yl rfl rfl|exact yp rfl rfl|exact yo rfl rfl|exact yi rfl rfl|exact yj rfl rfl|exact yn rfl rfl|exact yh rfl rfl|exact yr rfl rfl|exact ym rfl rfl|exact yq rfl rfl|exact yk (by first | decide | assumption) rfl rfl)) | (guard_target =~ gY (.unOp .not _ _); exact zs rfl) | (guard_target =~ gY (.binOp .lss _ _ _ _); exact zc rfl rfl) | (guard_target =~ gY (.binOp .leq _ _ _ _); exact yz rfl rfl) | (guard_target =~ gY (.binOp .gtr _ _ _ _); exact yv rfl rfl) | (guard_target =~ gY (.binOp .geq _ _ _ _); exact yu rfl rfl) | (guard_target =~ gY (.binOp .add _ _ _ _); exact ya rfl rfl (by omega)) | (guard_target =~ gY (.binOp .sub _ _ _ _); exact zw rfl rfl (by omega)) | (guard_target =~ gY (.call _); (first| exact yx rfl|exact yy rfl)) | (guard_target =~ gY (.build _ _); exact yg rfl rfl) | (guard_target =~ gY (.indexAddr _ _ _); exact yw rfl rfl (by omega) (by omega))) ?_
          | refine WU.skip rfl rfl rfl ?_)
      | (guard_target =~ gW (.seq _ _); refine W.seq ?_)
      | (guard_target =~ gW (.region _ _ false); refine W.reg ?_)
      | (guard_target =~ gW (.cond _ _ _); first | refine W.cond_t rfl ?_ | refine W.cond_f rfl ?_)
      | (guard_target =~ gW (.block _ _); refine W.block ?_)
      | (guard_target =~ gW .skip; refine W.skip ?_)
      | (guard_target =~ gW (.exit _); refine W.exit ?_)
      | (guard_target =~ gW .ret; refine W.ret ?_)
      | (guard_target =~ gT .normal; refine thn_normal ?_)
      | (guard_target =~ gT (.exit _); refine thn_exit ?_)
      | (guard_target =~ gT .ret; refine thn_ret ?_)
      | (guard_target =~ gI .normal; refine inb_normal ?_)
      | (guard_target =~ gI (.exit _); first | refine inb_hit ?_ | refine inb_miss rfl ?_)
      | (guard_target =~ gI .ret; refine inb_ret ?_)))
  refine WU.stp rfl rfl rfl stp_makeMap ?_
  rintro _ wm ⟨r, rfl, nm1⟩
  have hle : w0.heap.size ≤ r := by have := nm1.num; omega
  (repeat (first
      | (guard_target =~ gU _; first
          | (guard_target =~ gU []; first | refine WU.nilk ?_ | refine WU.nil ?_)
          | refine WU.yld rfl rfl rfl (by first | (guard_target =~ gY (.move _); exact ze rfl) | (guard_target =~ gY (.assign _); exact yf rfl) | (guard_target =~ gY (.load _ _); (first| exact za rfl rfl|exact zb rfl)) | (guard_target =~ gY (.fieldAddr _ _ _); exact yt rfl) | (guard_target =~ gY (.nilCheck _); (first| exact zq rfl|exact zr rfl)) | (guard_target =~ gY (.extract _ _); exact ys rfl rfl) | (guard_target =~ gY (.typeAssert _ _ _ true); (first| exact ye rfl rfl|exact yd rfl rfl (by first | rfl | assumption)|exact yc rfl rfl)) | (guard_target =~ gY (.typeAssert _ _ _ false); exact yb rfl rfl) | (guard_target =~ gY (.makeInterface _ _); exact zd rfl rfl) | (guard_target =~ gY (.pick _ _ _); (first| exact zv rfl rfl|exact zu rfl rfl|exact zt rfl rfl rfl)) | (guard_target =~ gY (.binOp .neq _ _ _ _); (first| exact zj rfl rfl|exact zn rfl rfl|exact zm rfl rfl|exact zg rfl rfl|exact zh rfl rfl|exact zl rfl rfl|exact zf rfl rfl|exact zp rfl rfl|exact zk rfl rfl|exact zo rfl rfl|exact zi (by first | decide | assumption) rfl rfl)) | (guard_target =~ gY (.binOp .eql _ _ _ _); (first| exact yl rfl rfl|exact yp rfl rfl|exact yo rfl rfl|exact yi rfl rfl|exact yj rfl rfl|exact yn rfl rfl|exact yh rfl rfl|exact yr rfl rfl|exact ym rfl rfl|exact yq rfl rfl|exact yk (by first | decide | assumption) rfl rfl)) | (guard_target =~ gY (.unOp .not _ _); exact zs rfl) | (guard_target =~ gY (.binOp .lss _ _ _ _); exact zc rfl rfl) | (guard_target =~ gY (.binOp .leq _ _ _ _); exact yz rfl rfl) | (guard_target =~ gY (.binOp .gtr _ _ _ _); exact yv rfl rfl) | (guard_target =~ gY (.binOp .geq _ _ _ _); exact yu rfl rfl) | (guard_target =~ gY (.binOp .add _ _ _ _); exact ya rfl rfl (by omega)) | (guard_target =~ gY (.binOp .sub _ _ _ _); exact zw rfl rfl (by omega)) | (guard_target =~ gY (.call _); (first| exact yx rfl|exact yy rfl)) | (guard_target =~ gY (.build _ _); exact yg rfl rfl) | (guard_target =~ gY (.indexAddr _ _ _); exact yw rfl rfl (by omega) (by omega))) ?_
          | refine WU.skip rfl rfl rfl ?_)
      | (guard_target =~ gW (.seq _ _); refine W.seq ?_)
      | (guard_target =~ gW (.region _ _ false); refine W.reg ?_)
      | (guard_target =~ gW (.cond _ _ _); first | refine W.cond_t rfl ?_ | refine W.cond_f rfl ?_)
      | (guard_target =~ gW (.block _ _); refine W.block ?_)
      | (guard_target =~ gW .skip; refine W.skip ?_)
      | (guard_target =~ gW (.exit _); refine W.exit ?_)
      | (guard_target =~ gW .ret; refine W.ret ?_)
      | (guard_target =~ gT .normal; refine thn_normal ?_)
      | (guard_target =~ gT (.exit _); refine thn_exit ?_)
      | (guard_target =~ gT .ret; refine thn_ret ?_)
      | (guard_target =~ gI .normal; refine inb_normal ?_)
      | (guard_target =~ gI (.exit _); first | refine inb_hit ?_ | refine inb_miss rfl ?_)
      | (guard_target =~ gI .ret; refine inb_ret ?_)))
  refine WU.stp0 rfl rfl (stp_mapNew rfl rfl rfl nm1.has (hp.ext' nm1.ext) (by intro m hm; cases hm)) ?_
  rintro _ w1 u1
  have x1 : Ext w0 w1 := u1.ext nm1.ext hle
  (repeat (first
      | (guard_target =~ gU _; first
          | (guard_target =~ gU []; first | refine WU.nilk ?_ | refine WU.nil ?_)
          | refine WU.yld rfl rfl rfl (by first | (guard_target =~ gY (.move _); exact ze rfl) | (guard_target =~ gY (.assign _); exact yf rfl) | (guard_target =~ gY (.load _ _); (first| exact za rfl rfl|exact zb rfl)) | (guard_target =~ gY (.fieldAddr _ _ _); exact yt rfl) | (guard_target =~ gY (.nilCheck _); (first| exact zq rfl|exact zr rfl)) | (guard_target =~ gY (.extract _ _); exact ys rfl rfl) | (guard_target =~ gY (.typeAssert _ _ _ true); (first| exact ye rfl rfl|exact yd rfl rfl (by first | rfl | assumption)|exact yc rfl rfl)) | (guard_target =~ gY (.typeAssert _ _ _ false); exact yb rfl rfl) | (guard_target =~ gY (.makeInterface _ _); exact zd rfl rfl) | (guard_target =~ gY (.pick _ _ _); (first| exact zv rfl rfl|exact zu rfl rfl|exact zt rfl rfl rfl)) | (guard_target =~ gY (.binOp .neq _ _ _ _); (first| exact zj rfl rfl|exact zn rfl rfl|exact zm rfl rfl|exact zg rfl rfl|exact zh rfl rfl|exact zl rfl rfl|exact zf rfl rfl|exact zp rfl rfl|exact zk rfl rfl|exact zo rfl rfl|exact zi (by first | decide | assumption) rfl rfl)) | (guard_target =~ gY (.binOp .eql _ _ _ _); (first| exact yl rfl rfl|exact yp rfl rfl|exact yo rfl rfl|exact yi rfl rfl|exact yj rfl rfl|exact yn rfl rfl|exact yh rfl rfl|exact yr rfl rfl|exact ym rfl rfl|exact yq rfl rfl|exact yk (by first | decide | assumption) rfl rfl)) | (guard_target =~ gY (.unOp .not _ _); exact zs rfl) | (guard_target =~ gY (.binOp .lss _ _ _ _); exact zc rfl rfl) | (guard_target =~ gY (.binOp .leq _ _ _ _); exact yz rfl rfl) | (guard_target =~ gY (.binOp .gtr _ _ _ _); exact yv rfl rfl) | (guard_target =~ gY (.binOp .geq _ _ _ _); exact yu rfl rfl) | (guard_target =~ gY (.binOp .add _ _ _ _); exact ya rfl rfl (by omega)) | (guard_target =~ gY (.binOp .sub _ _ _ _); exact zw rfl rfl (by omega)) | (guard_target =~ gY (.call _); (first| exact yx rfl|exact yy rfl)) | (guard_target =~ gY (.build _ _); exact yg rfl rfl) | (guard_target =~ gY (.indexAddr _ _ _); exact yw rfl rfl (by omega) (by omega))) ?_
          | refine WU.skip rfl rfl rfl ?_)
      | (guard_target =~ gW (.seq _ _); refine W.seq ?_)
      | (guard_target =~ gW (.region _ _ false); refine W.reg ?_)
      | (guard_target =~ gW (.cond _ _ _); first | refine W.cond_t rfl ?_ | refine W.cond_f rfl ?_)
      | (guard_target =~ gW (.block _ _); refine W.block ?_)
      | (guard_target =~ gW .skip; refine W.skip ?_)
      | (guard_target =~ gW (.exit _); refine W.exit ?_)
      | (guard_target =~ gW .ret; refine W.ret ?_)
      | (guard_target =~ gT .normal; refine thn_normal ?_)
      | (guard_target =~ gT (.exit _); refine thn_exit ?_)
      | (guard_target =~ gT .ret; refine thn_ret ?_)
      | (guard_target =~ gI .normal; refine inb_normal ?_)
      | (guard_target =~ gI (.exit _); first | refine inb_hit ?_ | refine inb_miss rfl ?_)
      | (guard_target =~ gI .ret; refine inb_ret ?_)))
  refine WU.stp rfl rfl rfl (stp_invoke rfl rfl (c_Und_map b w1)) ?_
  rintro _ _ ⟨rfl, rfl⟩
  (repeat (first
      | (guard_target =~ gU _; first
          | (guard_target =~ gU []; first | refine WU.nilk ?_ | refine WU.nil ?_)
          | refine WU.yld rfl rfl rfl (by first | (guard_target =~ gY (.move _); exact ze rfl) | (guard_target =~ gY (.assign _); exact yf rfl) | (guard_target =~ gY (.load _ _); (first| exact za rfl rfl|exact zb rfl)) | (guard_target =~ gY (.fieldAddr _ _ _); exact yt rfl) | (guard_target =~ gY (.nilCheck _); (first| exact zq rfl|exact zr rfl)) | (guard_target =~ gY (.extract _ _); exact ys rfl rfl) | (guard_target =~ gY (.typeAssert _ _ _ true); (first| exact ye rfl rfl|exact yd rfl rfl (by first | rfl | assumption)|exact yc rfl rfl)) | (guard_target =~ gY (.typeAssert _ _ _ false); exact yb rfl rfl) | (guard_target =~ gY (.makeInterface _ _); exact zd rfl rfl) | (guard_target =~ gY (.pick _ _ _); (first| exact zv rfl rfl|exact zu rfl rfl|exact zt rfl rfl rfl)) | (guard_target =~ gY (.binOp .neq _ _ _ _); (first| exact zj rfl rfl|exact zn rfl rfl|exact zm rfl rfl|exact zg rfl rfl|exact zh rfl rfl|exact zl rfl rfl|exact zf rfl rfl|exact zp rfl rfl|exact zk rfl rfl|exact zo rfl rfl|exact zi (by first | decide | assumption) rfl rfl)) | (guard_target =~ gY (.binOp .eql _ _ _ _); (first| exact yl rfl rfl|exact yp rfl rfl|exact yo rfl rfl|exact yi rfl rfl|exact yj rfl rfl|exact yn rfl rfl|exact yh rfl rfl|exact yr rfl rfl|exact ym rfl rfl|exact yq rfl rfl|exact yk (by first | decide | assumption) rfl rfl)) | (guard_target =~ gY (.unOp .not _ _); exact zs rfl) | (guard_target =~ gY (.binOp .lss _ _ _ _); exact zc rfl rfl) | (guard_target =~ gY (.binOp .leq _ _ _ _); exact yz rfl rfl) | (guard_target =~ gY (.binOp .gtr _ _ _ _); exact yv rfl rfl) | (guard_target =~ gY (.binOp .geq _ _ _ _); exact yu rfl rfl) | (guard_target =~ gY (.binOp .add _ _ _ _); exact ya rfl rfl (by omega)) | (guard_target =~ gY (.binOp .sub _ _ _ _); exact zw rfl rfl (by omega)) | (guard_target =~ gY (.call _); (first| exact yx rfl|exact yy rfl)) | (guard_target =~ gY (.build _ _); exact yg rfl rfl) | (guard_target =~ gY (.indexAddr _ _ _); exact yw rfl rfl (by omega) (by omega))) ?_
          | refine WU.skip rfl rfl rfl ?_)
      | (guard_target =~ gW (.seq _ _); refine W.seq ?_)
      | (guard_target =~ gW (.region _ _ false); refine W.reg ?_)
      | (guard_target =~ gW (.cond _ _ _); first | refine W.cond_t rfl ?_ | refine W.cond_f rfl ?_)
      | (guard_target =~ gW (.block _ _); refine W.block ?_)
      | (guard_target =~ gW .skip; refine W.skip ?_)
      | (guard_target =~ gW (.exit _); refine W.exit ?_)
      | (guard_target =~ gW .ret; refine W.ret ?_)
      | (guard_target =~ gT .normal; refine thn_normal ?_)
      | (guard_target =~ gT (.exit _); refine thn_exit ?_)
      | (guard_target =~ gT .ret; refine thn_ret ?_)
      | (guard_target =~ gI .normal; refine inb_normal ?_)
      | (guard_target =~ gI (.exit _); first | refine inb_hit ?_ | refine inb_miss rfl ?_)
      | (guard_target =~ gI .ret; refine inb_ret ?_)))
  refine WU.stp rfl rfl rfl (stp_call rfl (c_typeErrorf _ _ _ _ w1)) ?_
  rintro _ w2 ⟨⟨k, rfl⟩, x2⟩
  (repeat (first
      | (guard_target =~ gU _; first
          | (guard_target =~ gU []; first | refine WU.nilk ?_ | refine WU.nil ?_)
          | refine WU.yld rfl rfl rfl (by first | (guard_target =~ gY (.move _); exact ze rfl) | (guard_target =~ gY (.assign _); exact yf rfl) | (guard_target =~ gY (.load _ _); (first| exact za rfl rfl|exact zb rfl)) | (guard_target =~ gY (.fieldAddr _ _ _); exact yt rfl) | (guard_target =~ gY (.nilCheck _); (first| exact zq rfl|exact zr rfl)) | (guard_target =~ gY (.extract _ _); exact ys rfl rfl) | (guard_target =~ gY (.typeAssert _ _ _ true); (first| exact ye rfl rfl|exact yd rfl rfl (by first | rfl | assumption)|exact yc rfl rfl)) | (guard_target =~ gY (.typeAssert _ _ _ false); exact yb rfl rfl) | (guard_target =~ gY (.makeInterface _ _); exact zd rfl rfl) | (guard_target =~ gY (.pick _ _ _); (first| exact zv rfl rfl|exact zu rfl rfl|exact zt rfl rfl rfl)) | (guard_target =~ gY (.binOp .neq _ _ _ _); (first| exact zj rfl rfl|exact zn rfl rfl|exact zm rfl rfl|exact zg rfl rfl|exact zh rfl rfl|exact zl rfl rfl|exact zf rfl rfl|exact zp rfl rfl|exact zk rfl rfl|exact zo rfl rfl|exact zi (by first | decide | assumption) rfl rfl)) | (guard_target =~ gY (.binOp .eql _ _ _ _); (first| exact yl rfl rfl|exact yp rfl rfl|exact yo rfl rfl|exact yi rfl rfl|exact yj rfl rfl|exact yn rfl rfl|exact yh rfl rfl|exact yr rfl rfl|exact ym rfl rfl|exact yq rfl rfl|exact yk (by first | decide | assumption) rfl rfl)) | (guard_target =~ gY (.unOp .not _ _); exact zs rfl) | (guard_target =~ gY (.binOp .lss _ _ _ _); exact zc rfl rfl) | (guard_target =~ gY (.binOp .leq _ _ _ _); exact yz rfl rfl) | (guard_target =~ gY (.binOp .gtr _ _ _ _); exact yv rfl rfl) | (guard_target =~ gY (.binOp .geq _ _ _ _); exact yu rfl rfl) | (guard_target =~ gY (.binOp .add _ _ _ _); exact ya rfl rfl (by omega)) | (guard_target =~ gY (.binOp .sub _ _ _ _); exact zw rfl rfl (by omega)) | (guard_target =~ gY (.call _); (first| exact yx rfl|exact yy rfl)) | (guard_target =~ gY (.build _ _); exact yg rfl rfl) | (guard_target =~ gY (.indexAddr _ _ _); exact yw rfl rfl (by omega) (by omega))) ?_
          | refine WU.skip rfl rfl rfl ?_)
      | (guard_target =~ gW (.seq _ _); refine W.seq ?_)
      | (guard_target =~ gW (.region _ _ false); refine W.reg ?_)
      | (guard_target =~ gW (.cond _ _ _); first | refine W.cond_t rfl ?_ | refine W.cond_f rfl ?_)
      | (guard_target =~ gW (.block _ _); refine W.block ?_)
      | (guard_target =~ gW .skip; refine W.skip ?_)
      | (guard_target =~ gW (.exit _); refine W.exit ?_)
      | (guard_target =~ gW .ret; refine W.ret ?_)
      | (guard_target =~ gT .normal; refine thn_normal ?_)
      | (guard_target =~ gT (.exit _); refine thn_exit ?_)
      | (guard_target =~ gT .ret; refine thn_ret ?_)
      | (guard_target =~ gI .normal; refine inb_normal ?_)
      | (guard_target =~ gI (.exit _); first | refine inb_hit ?_ | refine inb_miss rfl ?_)
      | (guard_target =~ gI .ret; refine inb_ret ?_)))
  exact fin1 (.inl rfl) rfl rfl ⟨.inr ⟨rfl, _, rfl⟩, x1.trans x2⟩

theorem c_comparableType : ∀ (x : GT) (vx : Value) (w0 w : World) (r c : Nat) (es : Array MapEntry), Rep w0 vx x → Ext w0 w → w0.heap.size ≤ r → Has w r (.map es c) → Seen w0 x es →
    Calls Tryz.prog 40 #[vx, .bool true, .map (some r)] w (Ret fun v w' => Rz v (cmpG x) ∧ Ext w0 w') := by
  intro x
  induction x with
  | array m t ih =>
    intro vx w0 w r c es hx he hle hm hs
    obtain ⟨b, rfl, hp⟩ := hx.shape
    have hn := hs.noKey hx he
    have hx' := hx
    cases hx with
    | array h0 h1 hv =>
    exact ct_mp_array hp h1 he hle hm hn (fun w' r' es' c' k1 k2 k3 k4 => by
      subst k4
      exact ih _ w0 w' r' _ _ hv k1 k2 k3 (hs.push hx' (by simp [szG])))
  | basic k =>
    intro vx w0 w r c es hx he hle hm hs
    obtain ⟨b, rfl, hp⟩ := hx.shape
    have hn := hs.noKey hx he
    cases hx with
    | basic _ hk h1 => exact ct_mp_basic hp h1 hk he hle hm hn
  | ptr t _ =>
    intro vx w0 w r c es hx he hle hm hs
    obtain ⟨b, rfl, hp⟩ := hx.shape
    have hn := hs.noKey hx he
    exact ct_mp_ptr hp he hle hm hn
  | slice t _ =>
    intro vx w0 w r c es hx he hle hm hs
    obtain ⟨b, rfl, hp⟩ := hx.shape
    have hn := hs.noKey hx he
    exact ct_mp_slice hp he hle hm hn
  | chan d t _ =>
    intro vx w0 w r c es hx he hle hm hs
    obtain ⟨b, rfl, hp⟩ := hx.shape
    have hn := hs.noKey hx he
    exact ct_mp_chan hp he hle hm hn
  | map k t _ _ =>
    intro vx w0 w r c es hx he hle hm hs
    obtain ⟨b, rfl, hp⟩ := hx.shape
    have hn := hs.noKey hx he
    exact ct_mp_map hp he hle hm hn

theorem c_comparable0 (x : GT) (vx : Value) (w : World) (hx : Rep w vx x) :
    Calls Tryz.prog 40 #[vx, .bool true, .map none] w (Ret fun v w' => Rz v (cmpG x) ∧ Ext w w') := by
  cases x with
  | basic k =>
    obtain ⟨b, rfl, hp⟩ := hx.shape
    cases hx with
    | basic _ hk h1 => exact ct_nl_basic hp h1 hk
  | ptr t =>
    obtain ⟨b, rfl, hp⟩ := hx.shape
    exact ct_nl_ptr hp
  | slice t =>
    obtain ⟨b, rfl, hp⟩ := hx.shape
    exact ct_nl_slice hp
  | chan d t =>
    obtain ⟨b, rfl, hp⟩ := hx.shape
    exact ct_nl_chan hp
  | map k t =>
    obtain ⟨b, rfl, hp⟩ := hx.shape
    exact ct_nl_map hp
  | array m t =>
    obtain ⟨b, rfl, hp⟩ := hx.shape
    have hx' := hx
    cases hx with
    | array h0 h1 hv =>
    exact ct_nl_array hp h1 (fun w' r' es' c' k1 k2 k3 k4 => by
      subst k4
      exact c_comparableType t _ w w' r' _ _ hv k1 k2 k3 (Seen.push (x := .array m t) (fun m hm => by simp at hm) hx' (by simp [szG])))

theorem c_Comparable {x : GT} {vx : Value} {w : World} (hx : Rep w vx x) :
    Calls Tryz.prog 27 #[vx] w (Ret fun r w' => r = .bool (cmpG x) ∧ Ext w w') := by
  refine W.enter (args := [vx]) Tryz.func27 rfl Tryz.ntmps27 rfl rfl ?_
  (repeat (first
      | (guard_target =~ gU _; first
          | (guard_target =~ gU []; first | refine WU.nilk ?_ | refine WU.nil ?_)
          | refine WU.yld rfl rfl rfl (by first | (guard_target =~ gY (.move _); exact ze rfl) | (guard_target =~ gY (.assign _); exact yf rfl) | (guard_target =~ gY (.load _ _); (first| exact za rfl rfl|exact zb rfl)) | (guard_target =~ gY (.fieldAddr _ _ _); exact yt rfl) | (guard_target =~ gY (.nilCheck _); (first| exact zq rfl|exact zr rfl)) | (guard_target =~ gY (.extract _ _); exact ys rfl rfl) | (guard_target =~ gY (.typeAssert _ _ _ true); (first| exact ye rfl rfl|exact yd rfl rfl (by first | rfl | assumption)|exact yc rfl rfl)) | (guard_target =~ gY (.typeAssert _ _ _ false); exact yb rfl rfl) | (guard_target =~ gY (.makeInterface _ _); exact zd rfl rfl) | (guard_target =~ gY (.pick _ _ _); (first| exact zv rfl rfl|exact zu rfl rfl|exact zt rfl rfl rfl)) | (guard_target =~ gY (.binOp .neq _ _ _ _); (first| exact zj rfl rfl|exact zn rfl rfl|exact zm rfl rfl|exact zg rfl rfl|exact zh rfl rfl|exact zl rfl rfl|exact zf rfl rfl|exact zp rfl rfl|exact zk rfl rfl|exact zo rfl rfl|exact zi (by first | decide | assumption) rfl rfl)) | (guard_target =~ gY (.binOp .eql _ _ _ _); (first| exact yl rfl rfl|exact yp rfl rfl|exact yo rfl rfl|exact yi rfl rfl|exact yj rfl rfl|exact yn rfl rfl|exact yh rfl rfl|exact yr rfl rfl|exact ym rfl rfl|exact yq rfl rfl|exact yk (by first | decide | assumption) rfl rfl)) | (guard_target =~ gY (.unOp .not _ _); exact zs rfl) | (guard_target =~ gY (.binOp .lss _ _ _ _); exact zc rfl rfl) | (guard_target =~ gY (.binOp .leq _ _ _ _); exact yz rfl rfl) | (guard_target =~ gY (.binOp .gtr _ _ _ _); exact yv rfl rfl) | (guard_target =~ gY (.binOp .geq _ _ _ _); exact yu rfl rfl) | (guard_target =~ gY (.binOp .add _ _ _ _); exact ya rfl rfl (by omega)) | (guard_target =~ gY (.binOp .sub _ _ _ _); exact zw rfl rfl (by omega)) | (guard_target =~ gY (.call _); (first| exact yx rfl|exact yy rfl)) | (guard_target =~ gY (.build _ _); exact yg rfl rfl) | (guard_target =~ gY (.indexAddr _ _ _); exact yw rfl rfl (by omega) (by omega))) ?_
          | refine WU.skip rfl rfl rfl ?_)
      | (guard_target =~ gW (.seq _ _); refine W.seq ?_)
      | (guard_target =~ gW (.region _ _ false); refine W.reg ?_)
      | (guard_target =~ gW (.cond _ _ _); first | refine W.cond_t rfl ?_ | refine W.cond_f rfl ?_)
      | (guard_target =~ gW (.block _ _); refine W.block ?_)
      | (guard_target =~ gW .skip; refine W.skip ?_)
      | (guard_target =~ gW (.exit _); refine W.exit ?_)
      | (guard_target =~ gW .ret; refine W.ret ?_)
      | (guard_target =~ gT .normal; refine thn_normal ?_)
      | (guard_target =~ gT (.exit _); refine thn_exit ?_)
      | (guard_target =~ gT .ret; refine thn_ret ?_)
      | (guard_target =~ gI .normal; refine inb_normal ?_)
      | (guard_target =~ gI (.exit _); first | refine inb_hit ?_ | refine inb_miss rfl ?_)
      | (guard_target =~ gI .ret; refine inb_ret ?_)))
  refine WU.stp rfl rfl rfl (stp_call rfl (c_comparable0 x vx w hx)) ?_
  rintro v2 w2 ⟨hv2, x2⟩
  rcases hv2 with ⟨h1, rfl⟩ | ⟨h1, k, rfl⟩
  · (repeat (first
      | (guard_target =~ gU _; first
          | (guard_target =~ gU []; first | refine WU.nilk ?_ | refine WU.nil ?_)
          | refine WU.yld rfl rfl rfl (by first | (guard_target =~ gY (.move _); exact ze rfl) | (guard_target =~ gY (.assign _); exact yf rfl) | (guard_target =~ gY (.load _ _); (first| exact za rfl rfl|exact zb rfl)) | (guard_target =~ gY (.fieldAddr _ _ _); exact yt rfl) | (guard_target =~ gY (.nilCheck _); (first| exact zq rfl|exact zr rfl)) | (guard_target =~ gY (.extract _ _); exact ys rfl rfl) | (guard_target =~ gY (.typeAssert _ _ _ true); (first| exact ye rfl rfl|exact yd rfl rfl (by first | rfl | assumption)|exact yc rfl rfl)) | (guard_target =~ gY (.typeAssert _ _ _ false); exact yb rfl rfl) | (guard_target =~ gY (.makeInterface _ _); exact zd rfl rfl) | (guard_target =~ gY (.pick _ _ _); (first| exact zv rfl rfl|exact zu rfl rfl|exact zt rfl rfl rfl)) | (guard_target =~ gY (.binOp .neq _ _ _ _); (first| exact zj rfl rfl|exact zn rfl rfl|exact zm rfl rfl|exact zg rfl rfl|exact zh rfl rfl|exact zl rfl rfl|exact zf rfl rfl|exact zp rfl rfl|exact zk rfl rfl|exact zo rfl rfl|exact zi (by first | decide | assumption) rfl rfl)) | (guard_target =~ gY (.binOp .eql _ _ _ _); (first| exact yl rfl rfl|exact yp rfl rfl|exact yo rfl rfl|exact yi rfl rfl|exact yj rfl rfl|exact yn rfl rfl|exact yh rfl rfl|exact yr rfl rfl|exact ym rfl rfl|exact yq rfl rfl|exact yk (by first | decide | assumption) rfl rfl)) | (guard_target =~ gY (.unOp .not _ _); exact zs rfl) | (guard_target =~ gY (.binOp .lss _ _ _ _); exact zc rfl rfl) | (guard_target =~ gY (.binOp .leq _ _ _ _); exact yz rfl rfl) | (guard_target =~ gY (.binOp .gtr _ _ _ _); exact yv rfl rfl) | (guard_target =~ gY (.binOp .geq _ _ _ _); exact yu rfl rfl) | (guard_target =~ gY (.binOp .add _ _ _ _); exact ya rfl rfl (by omega)) | (guard_target =~ gY (.binOp .sub _ _ _ _); exact zw rfl rfl (by omega)) | (guard_target =~ gY (.call _); (first| exact yx rfl|exact yy rfl)) | (guard_target =~ gY (.build _ _); exact yg rfl rfl) | (guard_target =~ gY (.indexAddr _ _ _); exact yw rfl rfl (by omega) (by omega))) ?_
          | refine WU.skip rfl rfl rfl ?_)
      | (guard_target =~ gW (.seq _ _); refine W.seq ?_)
      | (guard_target =~ gW (.region _ _ false); refine W.reg ?_)
      | (guard_target =~ gW (.cond _ _ _); first | refine W.cond_t rfl ?_ | refine W.cond_f rfl ?_)
      | (guard_target =~ gW (.block _ _); refine W.block ?_)
      | (guard_target =~ gW .skip; refine W.skip ?_)
      | (guard_target =~ gW (.exit _); refine W.exit ?_)
      | (guard_target =~ gW .ret; refine W.ret ?_)
      | (guard_target =~ gT .normal; refine thn_normal ?_)
      | (guard_target =~ gT (.exit _); refine thn_exit ?_)
      | (guard_target =~ gT .ret; refine thn_ret ?_)
      | (guard_target =~ gI .normal; refine inb_normal ?_)
      | (guard_target =~ gI (.exit _); first | refine inb_hit ?_ | refine inb_miss rfl ?_)
      | (guard_target =~ gI .ret; refine inb_ret ?_)))
    exact fin1 (.inl rfl) rfl rfl ⟨by rw [h1], x2⟩
  · (repeat (first
      | (guard_target =~ gU _; first
          | (guard_target =~ gU []; first | refine WU.nilk ?_ | refine WU.nil ?_)
          | refine WU.yld rfl rfl rfl (by first | (guard_target =~ gY (.move _); exact ze rfl) | (guard_target =~ gY (.assign _); exact yf rfl) | (guard_target =~ gY (.load _ _); (first| exact za rfl rfl|exact zb rfl)) | (guard_target =~ gY (.fieldAddr _ _ _); exact yt rfl) | (guard_target =~ gY (.nilCheck _); (first| exact zq rfl|exact zr rfl)) | (guard_target =~ gY (.extract _ _); exact ys rfl rfl) | (guard_target =~ gY (.typeAssert _ _ _ true); (first| exact ye rfl rfl|exact yd rfl rfl (by first | rfl | assumption)|exact yc rfl rfl)) | (guard_target =~ gY (.typeAssert _ _ _ false); exact yb rfl rfl) | (guard_target =~ gY (.makeInterface _ _); exact zd rfl rfl) | (guard_target =~ gY (.pick _ _ _); (first| exact zv rfl rfl|exact zu rfl rfl|exact zt rfl rfl rfl)) | (guard_target =~ gY (.binOp .neq _ _ _ _); (first| exact zj rfl rfl|exact zn rfl rfl|exact zm rfl rfl|exact zg rfl rfl|exact zh rfl rfl|exact zl rfl rfl|exact zf rfl rfl|exact zp rfl rfl|exact zk rfl rfl|exact zo rfl rfl|exact zi (by first | decide | assumption) rfl rfl)) | (guard_target =~ gY (.binOp .eql _ _ _ _); (first| exact yl rfl rfl|exact yp rfl rfl|exact yo rfl rfl|exact yi rfl rfl|exact yj rfl rfl|exact yn rfl rfl|exact yh rfl rfl|exact yr rfl rfl|exact ym rfl rfl|exact yq rfl rfl|exact yk (by first | decide | assumption) rfl rfl)) | (guard_target =~ gY (.unOp .not _ _); exact zs rfl) | (guard_target =~ gY (.binOp .lss _ _ _ _); exact zc rfl rfl) | (guard_target =~ gY (.binOp .leq _ _ _ _); exact yz rfl rfl) | (guard_target =~ gY (.binOp .gtr _ _ _ _); exact yv rfl rfl) | (guard_target =~ gY (.binOp .geq _ _ _ _); exact yu rfl rfl) | (guard_target =~ gY (.binOp .add _ _ _ _); exact ya rfl rfl (by omega)) | (guard_target =~ gY (.binOp .sub _ _ _ _); exact zw rfl rfl (by omega)) | (guard_target =~ gY (.call _); (first| exact yx rfl|exact yy rfl)) | (guard_target =~ gY (.build _ _); exact yg rfl rfl) | (guard_target =~ gY (.indexAddr _ _ _); exact yw rfl rfl (by omega) (by omega))) ?_
          | refine WU.skip rfl rfl rfl ?_)
      | (guard_target =~ gW (.seq _ _); refine W.seq ?_)
      | (guard_target =~ gW (.region _ _ false); refine W.reg ?_)
      | (guard_target =~ gW (.cond _ _ _); first | refine W.cond_t rfl ?_ | refine W.cond_f rfl ?_)
      | (guard_target =~ gW (.block _ _); refine W.block ?_)
      | (guard_target =~ gW .skip; refine W.skip ?_)
      | (guard_target =~ gW (.exit _); refine W.exit ?_)
      | (guard_target =~ gW .ret; refine W.ret ?_)
      | (guard_target =~ gT .normal; refine thn_normal ?_)
      | (guard_target =~ gT (.exit _); refine thn_exit ?_)
      | (guard_target =~ gT .ret; refine thn_ret ?_)
      | (guard_target =~ gI .normal; refine inb_normal ?_)
      | (guard_target =~ gI (.exit _); first | refine inb_hit ?_ | refine inb_miss rfl ?_)
      | (guard_target =~ gI .ret; refine inb_ret ?_)))
    exact fin1 (.inl rfl) rfl rfl ⟨by rw [h1], x2⟩
end Go.Proofs.YtnmodbmaokilaaaGreatDoor

/- The plain family, part 9: ComparablePlain; FnChainsCompared. -/
import Derived.Test.YtnmodbmaokilaaaGreatDoorP8
namespace Go.Proofs.YtnmodbmaokilaaaGreatDoor
open Go Go.Kd
set_option maxRecDepth 100000

theorem c_ComparablePlain {x : Nat} {t : PT} {w : World} {k n : Int} {a : Option Addr} {l c : Nat} {nm tg : ByteArray} {em : Bool}
    (hx : DRep w x t k n (.slice a l c)) (ht : t.ok) :
    Calls Tryz.prog 15 #[tyv k n 0 false (.slice a l c) nm tg em] w
      (Ret fun r w' => r = .bool (cmpG t.gt) ∧ Ext w w') := by
  refine W.enter (args := [tyv k n 0 false (.slice a l c) nm tg em]) Tryz.func15 rfl Tryz.ntmps15 rfl rfl ?_
  (repeat (first
      | (guard_target =~ gU _; first
          | (guard_target =~ gU []; first | refine WU.nilk ?_ | refine WU.nil ?_)
          | refine WU.yld rfl rfl rfl (by first | (guard_target =~ gY (.move _); exact ze rfl) | (guard_target =~ gY (.assign _); exact yf rfl) | (guard_target =~ gY (.load _ _); (first| exact za rfl rfl|exact zb rfl)) | (guard_target =~ gY (.fieldAddr _ _ _); exact yt rfl) | (guard_target =~ gY (.nilCheck _); (first| exact zq rfl|exact zr rfl)) | (guard_target =~ gY (.extract _ _); exact ys rfl rfl) | (guard_target =~ gY (.typeAssert _ _ _ true); (first| exact ye rfl rfl|exact yd rfl rfl (by first | rfl | assumption)|exact yc rfl rfl)) | (guard_target =~ gY (.typeAssert _ _ _ false); exact yb rfl rfl) | (guard_target =~ gY (.makeInterface _ _); exact zd rfl rfl) | (guard_target =~ gY (.pick _ _ _); (first| exact zv rfl rfl|exact zu rfl rfl|exact zt rfl rfl rfl)) | (guard_target =~ gY (.binOp .neq _ _ _ _); (first| exact zj rfl rfl|exact zn rfl rfl|exact zm rfl rfl|exact zg rfl rfl|exact zh rfl rfl|exact zl rfl rfl|exact zf rfl rfl|exact zp rfl rfl|exact zk rfl rfl|exact zo rfl rfl|exact zi (by first | decide | assumption) rfl rfl)) | (guard_target =~ gY (.binOp .eql _ _ _ _); (first| exact yl rfl rfl|exact yp rfl rfl|exact yo rfl rfl|exact yi rfl rfl|exact yj rfl rfl|exact yn rfl rfl|exact yh rfl rfl|exact yr rfl rfl|exact ym rfl rfl|exact yq rfl rfl|exact yk (by first | decide | assumption) rfl rfl)) | (guard_target =~ gY (.unOp .not _ _); exact zs rfl) | (guard_target =~ gY (.binOp .lss _ _ _ _); exact zc rfl rfl) | (guard_target =~ gY (.binOp .leq _ _ _ _); exact yz rfl rfl) | (guard_target =~ gY (.binOp .gtr _ _ _ _); exact yv rfl rfl) | (guard_target =~ gY (.binOp .geq _ _ _ _); exact yu rfl rfl) | (guard_target =~ gY (.binOp .add _ _ _ _); exact ya rfl rfl (by omega)) | (guard_target =~ gY (.binOp .sub _ _ _ _); exact zw rfl rfl (by omega)) | (guard_target =~ gY (.call _); (first| exact yx rfl|exact yy rfl)) | (guard_target =~ gY (.build _ _); exact yg rfl rfl) | (guard_target =~ gY (.indexAddr _ _ _); exact yw rfl rfl (by omega) (by omega))) ?_
          | refine WU.skip rfl rfl rfl ?_)
      | (guard_target =~ gW (.seq _ _); refine W.seq ?_)
      | (guard_target =~ gW (.region _ _ false); refine W.reg ?_)
      | (guard_target =~ gW (.cond _ _ _); first | refine W.cond_t rfl ?_ | refine W.cond_f rfl ?_)
      | (guard_target =~ gW (.block _ _); refine W.block ?_)
      | (guard_target =~ gW .skip; refine W.skip ?_)
      | (guard_target =~ gW (.exit _); refine W.exit ?_)
      | (guard_target =~ gW .ret; refine W.ret ?_)
      | (guard_target =~ gT .normal; refine thn_normal ?_)
      | (guard_target =~ gT (.exit _); refine thn_exit ?_)
      | (guard_target =~ gT .ret; refine thn_ret ?_)
      | (guard_target =~ gI .normal; refine inb_normal ?_)
      | (guard_target =~ gI (.exit _); first | refine inb_hit ?_ | refine inb_miss rfl ?_)
      | (guard_target =~ gI .ret; refine inb_ret ?_)))
  refine WU.stp rfl rfl rfl (by first | exact stp_box rfl rfl | exact stp_box1 rfl rfl) ?_
  rintro _ w1 ⟨b1, rfl, n1⟩
  (repeat (first
      | (guard_target =~ gU _; first
          | (guard_target =~ gU []; first | refine WU.nilk ?_ | refine WU.nil ?_)
          | refine WU.yld rfl rfl rfl (by first | (guard_target =~ gY (.move _); exact ze rfl) | (guard_target =~ gY (.assign _); exact yf rfl) | (guard_target =~ gY (.load _ _); (first| exact za rfl rfl|exact zb rfl)) | (guard_target =~ gY (.fieldAddr _ _ _); exact yt rfl) | (guard_target =~ gY (.nilCheck _); (first| exact zq rfl|exact zr rfl)) | (guard_target =~ gY (.extract _ _); exact ys rfl rfl) | (guard_target =~ gY (.typeAssert _ _ _ true); (first| exact ye rfl rfl|exact yd rfl rfl (by first | rfl | assumption)|exact yc rfl rfl)) | (guard_target =~ gY (.typeAssert _ _ _ false); exact yb rfl rfl) | (guard_target =~ gY (.makeInterface _ _); exact zd rfl rfl) | (guard_target =~ gY (.pick _ _ _); (first| exact zv rfl rfl|exact zu rfl rfl|exact zt rfl rfl rfl)) | (guard_target =~ gY (.binOp .neq _ _ _ _); (first| exact zj rfl rfl|exact zn rfl rfl|exact zm rfl rfl|exact zg rfl rfl|exact zh rfl rfl|exact zl rfl rfl|exact zf rfl rfl|exact zp rfl rfl|exact zk rfl rfl|exact zo rfl rfl|exact zi (by first | decide | assumption) rfl rfl)) | (guard_target =~ gY (.binOp .eql _ _ _ _); (first| exact yl rfl rfl|exact yp rfl rfl|exact yo rfl rfl|exact yi rfl rfl|exact yj rfl rfl|exact yn rfl rfl|exact yh rfl rfl|exact yr rfl rfl|exact ym rfl rfl|exact yq rfl rfl|exact yk (by first | decide | assumption) rfl rfl)) | (guard_target =~ gY (.unOp .not _ _); exact zs rfl) | (guard_target =~ gY (.binOp .lss _ _ _ _); exact zc rfl rfl) | (guard_target =~ gY (.binOp .leq _ _ _ _); exact yz rfl rfl) | (guard_target =~ gY (.binOp .gtr _ _ _ _); exact yv rfl rfl) | (guard_target =~ gY (.binOp .geq _ _ _ _); exact yu rfl rfl) | (guard_target =~ gY (.binOp .add _ _ _ _); exact ya rfl rfl (by omega)) | (guard_target =~ gY (.binOp .sub _ _ _ _); exact zw rfl rfl (by omega)) | (guard_target =~ gY (.call _); (first| exact yx rfl|exact yy rfl)) | (guard_target =~ gY (.build _ _); exact yg rfl rfl) | (guard_target =~ gY (.indexAddr _ _ _); exact yw rfl rfl (by omega) (by omega))) ?_
          | refine WU.skip rfl rfl rfl ?_)
      | (guard_target =~ gW (.seq _ _); refine W.seq ?_)
      | (guard_target =~ gW (.region _ _ false); refine W.reg ?_)
      | (guard_target =~ gW (.cond _ _ _); first | refine W.cond_t rfl ?_ | refine W.cond_f rfl ?_)
      | (guard_target =~ gW (.block _ _); refine W.block ?_)
      | (guard_target =~ gW .skip; refine W.skip ?_)
      | (guard_target =~ gW (.exit _); refine W.exit ?_)
      | (guard_target =~ gW .ret; refine W.ret ?_)
      | (guard_target =~ gT .normal; refine thn_normal ?_)
      | (guard_target =~ gT (.exit _); refine thn_exit ?_)
      | (guard_target =~ gT .ret; refine thn_ret ?_)
      | (guard_target =~ gI .normal; refine inb_normal ?_)
      | (guard_target =~ gI (.exit _); first | refine inb_hit ?_ | refine inb_miss rfl ?_)
      | (guard_target =~ gI .ret; refine inb_ret ?_)))
  refine WU.stp rfl rfl rfl (stp_call rfl (c_plain hx nm tg em w1 n1.ext ht)) ?_
  rintro _ w2 ⟨hr, x2⟩
  refine WU.stp rfl rfl rfl (stp_call rfl (c_Comparable hr)) ?_
  rintro _ w3 ⟨rfl, x3⟩
  (repeat (first
      | (guard_target =~ gU _; first
          | (guard_target =~ gU []; first | refine WU.nilk ?_ | refine WU.nil ?_)
          | refine WU.yld rfl rfl rfl (by first | (guard_target =~ gY (.move _); exact ze rfl) | (guard_target =~ gY (.assign _); exact yf rfl) | (guard_target =~ gY (.load _ _); (first| exact za rfl rfl|exact zb rfl)) | (guard_target =~ gY (.fieldAddr _ _ _); exact yt rfl) | (guard_target =~ gY (.nilCheck _); (first| exact zq rfl|exact zr rfl)) | (guard_target =~ gY (.extract _ _); exact ys rfl rfl) | (guard_target =~ gY (.typeAssert _ _ _ true); (first| exact ye rfl rfl|exact yd rfl rfl (by first | rfl | assumption)|exact yc rfl rfl)) | (guard_target =~ gY (.typeAssert _ _ _ false); exact yb rfl rfl) | (guard_target =~ gY (.makeInterface _ _); exact zd rfl rfl) | (guard_target =~ gY (.pick _ _ _); (first| exact zv rfl rfl|exact zu rfl rfl|exact zt rfl rfl rfl)) | (guard_target =~ gY (.binOp .neq _ _ _ _); (first| exact zj rfl rfl|exact zn rfl rfl|exact zm rfl rfl|exact zg rfl rfl|exact zh rfl rfl|exact zl rfl rfl|exact zf rfl rfl|exact zp rfl rfl|exact zk rfl rfl|exact zo rfl rfl|exact zi (by first | decide | assumption) rfl rfl)) | (guard_target =~ gY (.binOp .eql _ _ _ _); (first| exact yl rfl rfl|exact yp rfl rfl|exact yo rfl rfl|exact yi rfl rfl|exact yj rfl rfl|exact yn rfl rfl|exact yh rfl rfl|exact yr rfl rfl|exact ym rfl rfl|exact yq rfl rfl|exact yk (by first | decide | assumption) rfl rfl)) | (guard_target =~ gY (.unOp .not _ _); exact zs rfl) | (guard_target =~ gY (.binOp .lss _ _ _ _); exact zc rfl rfl) | (guard_target =~ gY (.binOp .leq _ _ _ _); exact yz rfl rfl) | (guard_target =~ gY (.binOp .gtr _ _ _ _); exact yv rfl rfl) | (guard_target =~ gY (.binOp .geq _ _ _ _); exact yu rfl rfl) | (guard_target =~ gY (.binOp .add _ _ _ _); exact ya rfl rfl (by omega)) | (guard_target =~ gY (.binOp .sub _ _ _ _); exact zw rfl rfl (by omega)) | (guard_target =~ gY (.call _); (first| exact yx rfl|exact yy rfl)) | (guard_target =~ gY (.build _ _); exact yg rfl rfl) | (guard_target =~ gY (.indexAddr _ _ _); exact yw rfl rfl (by omega) (by omega))) ?_
          | refine WU.skip rfl rfl rfl ?_)
      | (guard_target =~ gW (.seq _ _); refine W.seq ?_)
      | (guard_target =~ gW (.region _ _ false); refine W.reg ?_)
      | (guard_target =~ gW (.cond _ _ _); first | refine W.cond_t rfl ?_ | refine W.cond_f rfl ?_)
      | (guard_target =~ gW (.block _ _); refine W.block ?_)
      | (guard_target =~ gW .skip; refine W.skip ?_)
      | (guard_target =~ gW (.exit _); refine W.exit ?_)
      | (guard_target =~ gW .ret; refine W.ret ?_)
      | (guard_target =~ gT .normal; refine thn_normal ?_)
      | (guard_target =~ gT (.exit _); refine thn_exit ?_)
      | (guard_target =~ gT .ret; refine thn_ret ?_)
      | (guard_target =~ gI .normal; refine inb_normal ?_)
      | (guard_target =~ gI (.exit _); first | refine inb_hit ?_ | refine inb_miss rfl ?_)
      | (guard_target =~ gI .ret; refine inb_ret ?_)))
  exact fin1 (.inl rfl) rfl rfl ⟨rfl, n1.ext.trans (x2.trans x3)⟩

def cwq (b : Bool) (q : Int) : Bool := if q = 0 ∨ q = 3 then true else if q = 1 ∨ q = 4 then false else b
theorem cmpG_step (k : Int) (t : PT) : cmpG (stepT k t).gt = cwq (cmpG t.gt) (stA k) := by
  rw [stepT_gt]
  unfold cwq
  rcases st_low k with h | h | h | h | h <;> simp [h, cmpG]
def wantTo (l : List Int) : Bool := l.foldl (fun b k => cwq b (stA k)) true
theorem cmpG_chain (l : List Int) (n : Int) : cmpG (chainT l n).gt = wantTo l := by
  have h : ∀ (l : List Int) (t : PT), cmpG (l.foldl (fun t k => stepT k t) t).gt = l.foldl (fun b k => cwq b (stA k)) (cmpG t.gt) := by
    intro l
    induction l with
    | nil => intro t; rfl
    | cons a r ih => intro t; rw [List.foldl_cons, List.foldl_cons, ih, cmpG_step]
  exact h l _
theorem wantTo_succ (l : List Int) (i : Nat) (h : i < l.length) : wantTo (l.take (i + 1)) = cwq (wantTo (l.take i)) (stA l[i]) := by
  have e1 : l.take (i + 1) = l.take i ++ [l[i]] := by simp [h]
  unfold wantTo
  rw [e1, List.foldl_append]; rfl

set_option maxHeartbeats 4000000 in
theorem c_FnChainsCompared (l : List Int) (sl : Value) (n : Int) (w : World) (hl : l.length ≤ 9223372036854775807) (hI : Ints w sl l) :
    Calls Tryz.prog 5 #[sl, .int .i64 n] w (Ret fun r w' => r = .bool true ∧ Ext w w') := by
  obtain ⟨sa, sc, rfl⟩ := hI.shape
  refine W.enter (args := [.slice sa l.length sc, .int .i64 n]) Tryz.func5 rfl Tryz.ntmps5 rfl rfl ?_
  (repeat (first
      | (guard_target =~ gU _; first
          | (guard_target =~ gU []; first | refine WU.nilk ?_ | refine WU.nil ?_)
          | refine WU.yld rfl rfl rfl (by first | (guard_target =~ gY (.move _); exact ze rfl) | (guard_target =~ gY (.assign _); exact yf rfl) | (guard_target =~ gY (.load _ _); (first| exact za rfl rfl|exact zb rfl)) | (guard_target =~ gY (.fieldAddr _ _ _); exact yt rfl) | (guard_target =~ gY (.nilCheck _); (first| exact zq rfl|exact zr rfl)) | (guard_target =~ gY (.extract _ _); exact ys rfl rfl) | (guard_target =~ gY (.typeAssert _ _ _ true); (first| exact ye rfl rfl|exact yd rfl rfl (by first | rfl | assumption)|exact yc rfl rfl)) | (guard_target =~ gY (.typeAssert _ _ _ false); exact yb rfl rfl) | (guard_target =~ gY (.makeInterface _ _); exact zd rfl rfl) | (guard_target =~ gY (.pick _ _ _); (first| exact zv rfl rfl|exact zu rfl rfl|exact zt rfl rfl rfl)) | (guard_target =~ gY (.binOp .neq _ _ _ _); (first| exact zj rfl rfl|exact zn rfl rfl|exact zm rfl rfl|exact zg rfl rfl|exact zh rfl rfl|exact zl rfl rfl|exact zf rfl rfl|exact zp rfl rfl|exact zk rfl rfl|exact zo rfl rfl|exact zi (by first | decide | assumption) rfl rfl)) | (guard_target =~ gY (.binOp .eql _ _ _ _); (first| exact yl rfl rfl|exact yp rfl rfl|exact yo rfl rfl|exact yi rfl rfl|exact yj rfl rfl|exact yn rfl rfl|exact yh rfl rfl|exact yr rfl rfl|exact ym rfl rfl|exact yq rfl rfl|exact yk (by first | decide | assumption) rfl rfl)) | (guard_target =~ gY (.unOp .not _ _); exact zs rfl) | (guard_target =~ gY (.binOp .lss _ _ _ _); exact zc rfl rfl) | (guard_target =~ gY (.binOp .leq _ _ _ _); exact yz rfl rfl) | (guard_target =~ gY (.binOp .gtr _ _ _ _); exact yv rfl rfl) | (guard_target =~ gY (.binOp .geq _ _ _ _); exact yu rfl rfl) | (guard_target =~ gY (.binOp .add _ _ _ _); exact ya rfl rfl (by omega)) | (guard_target =~ gY (.binOp .sub _ _ _ _); exact zw rfl rfl (by omega)) | (guard_target =~ gY (.call _); (first| exact yx rfl|exact yy rfl)) | (guard_target =~ gY (.build _ _); exact yg rfl rfl) | (guard_target =~ gY (.indexAddr _ _ _); exact yw rfl rfl (by omega) (by omega))) ?_
          | refine WU.skip rfl rfl rfl ?_)
      | (guard_target =~ gW (.seq _ _); refine W.seq ?_)
      | (guard_target =~ gW (.region _ _ false); refine W.reg ?_)
      | (guard_target =~ gW (.cond _ _ _); first | refine W.cond_t rfl ?_ | refine W.cond_f rfl ?_)
      | (guard_target =~ gW (.block _ _); refine W.block ?_)
      | (guard_target =~ gW .skip; refine W.skip ?_)
      | (guard_target =~ gW (.exit _); refine W.exit ?_)
      | (guard_target =~ gW .ret; refine W.ret ?_)
      | (guard_target =~ gT .normal; refine thn_normal ?_)
      | (guard_target =~ gT (.exit _); refine thn_exit ?_)
      | (guard_target =~ gT .ret; refine thn_ret ?_)
      | (guard_target =~ gI .normal; refine inb_normal ?_)
      | (guard_target =~ gI (.exit _); first | refine inb_hit ?_ | refine inb_miss rfl ?_)
      | (guard_target =~ gI .ret; refine inb_ret ?_)))
  by_cases h1 : l.length > 2147483647
  · rw [show decide ((l.length : Int) > 2147483647) = true from decide_eq_true (by omega)]
    (repeat (first
        | (guard_target =~ gU _; first
            | (guard_target =~ gU []; first | refine WU.nilk ?_ | refine WU.nil ?_)
            | refine WU.yld rfl rfl rfl (by first | (guard_target =~ gY (.move _); exact ze rfl) | (guard_target =~ gY (.assign _); exact yf rfl) | (guard_target =~ gY (.load _ _); (first| exact za rfl rfl|exact zb rfl)) | (guard_target =~ gY (.fieldAddr _ _ _); exact yt rfl) | (guard_target =~ gY (.nilCheck _); (first| exact zq rfl|exact zr rfl)) | (guard_target =~ gY (.extract _ _); exact ys rfl rfl) | (guard_target =~ gY (.typeAssert _ _ _ true); (first| exact ye rfl rfl|exact yd rfl rfl (by first | rfl | assumption)|exact yc rfl rfl)) | (guard_target =~ gY (.typeAssert _ _ _ false); exact yb rfl rfl) | (guard_target =~ gY (.makeInterface _ _); exact zd rfl rfl) | (guard_target =~ gY (.pick _ _ _); (first| exact zv rfl rfl|exact zu rfl rfl|exact zt rfl rfl rfl)) | (guard_target =~ gY (.binOp .neq _ _ _ _); (first| exact zj rfl rfl|exact zn rfl rfl|exact zm rfl rfl|exact zg rfl rfl|exact zh rfl rfl|exact zl rfl rfl|exact zf rfl rfl|exact zp rfl rfl|exact zk rfl rfl|exact zo rfl rfl|exact zi (by first | decide | assumption) rfl rfl)) | (guard_target =~ gY (.binOp .eql _ _ _ _); (first| exact yl rfl rfl|exact yp rfl rfl|exact yo rfl rfl|exact yi rfl rfl|exact yj rfl rfl|exact yn rfl rfl|exact yh rfl rfl|exact yr rfl rfl|exact ym rfl rfl|exact yq rfl rfl|exact yk (by first | decide | assumption) rfl rfl)) | (guard_target =~ gY (.unOp .not _ _); exact zs rfl) | (guard_target =~ gY (.binOp .lss _ _ _ _); exact zc rfl rfl) | (guard_target =~ gY (.binOp .leq _ _ _ _); exact yz rfl rfl) | (guard_target =~ gY (.binOp .gtr _ _ _ _); exact yv rfl rfl) | (guard_target =~ gY (.binOp .geq _ _ _ _); exact yu rfl rfl) | (guard_target =~ gY (.binOp .add _ _ _ _); exact ya rfl rfl (by omega)) | (guard_target =~ gY (.binOp .sub _ _ _ _); exact zw rfl rfl (by omega)) | (guard_target =~ gY (.call _); (first| exact yx rfl|exact yy rfl)) | (guard_target =~ gY (.build _ _); exact yg rfl rfl) | (guard_target =~ gY (.indexAddr _ _ _); exact yw rfl rfl (by omega) (by omega))) ?_
            | refine WU.skip rfl rfl rfl ?_)
        | (guard_target =~ gW (.seq _ _); refine W.seq ?_)
        | (guard_target =~ gW (.region _ _ false); refine W.reg ?_)
        | (guard_target =~ gW (.cond _ _ _); first | refine W.cond_t rfl ?_ | refine W.cond_f rfl ?_)
        | (guard_target =~ gW (.block _ _); refine W.block ?_)
        | (guard_target =~ gW .skip; refine W.skip ?_)
        | (guard_target =~ gW (.exit _); refine W.exit ?_)
        | (guard_target =~ gW .ret; refine W.ret ?_)
        | (guard_target =~ gT .normal; refine thn_normal ?_)
        | (guard_target =~ gT (.exit _); refine thn_exit ?_)
        | (guard_target =~ gT .ret; refine thn_ret ?_)
        | (guard_target =~ gI .normal; refine inb_normal ?_)
        | (guard_target =~ gI (.exit _); first | refine inb_hit ?_ | refine inb_miss rfl ?_)
        | (guard_target =~ gI .ret; refine inb_ret ?_)))
    exact fin1 (.inl rfl) rfl rfl ⟨rfl, Ext.rfl' _⟩
  rw [show decide ((l.length : Int) > 2147483647) = false from decide_eq_false (by omega)]
  (repeat (first
      | (guard_target =~ gU _; first
          | (guard_target =~ gU []; first | refine WU.nilk ?_ | refine WU.nil ?_)
          | refine WU.yld rfl rfl rfl (by first | (guard_target =~ gY (.move _); exact ze rfl) | (guard_target =~ gY (.assign _); exact yf rfl) | (guard_target =~ gY (.load _ _); (first| exact za rfl rfl|exact zb rfl)) | (guard_target =~ gY (.fieldAddr _ _ _); exact yt rfl) | (guard_target =~ gY (.nilCheck _); (first| exact zq rfl|exact zr rfl)) | (guard_target =~ gY (.extract _ _); exact ys rfl rfl) | (guard_target =~ gY (.typeAssert _ _ _ true); (first| exact ye rfl rfl|exact yd rfl rfl (by first | rfl | assumption)|exact yc rfl rfl)) | (guard_target =~ gY (.typeAssert _ _ _ false); exact yb rfl rfl) | (guard_target =~ gY (.makeInterface _ _); exact zd rfl rfl) | (guard_target =~ gY (.pick _ _ _); (first| exact zv rfl rfl|exact zu rfl rfl|exact zt rfl rfl rfl)) | (guard_target =~ gY (.binOp .neq _ _ _ _); (first| exact zj rfl rfl|exact zn rfl rfl|exact zm rfl rfl|exact zg rfl rfl|exact zh rfl rfl|exact zl rfl rfl|exact zf rfl rfl|exact zp rfl rfl|exact zk rfl rfl|exact zo rfl rfl|exact zi (by first | decide | assumption) rfl rfl)) | (guard_target =~ gY (.binOp .eql _ _ _ _); (first| exact yl rfl rfl|exact yp rfl rfl|exact yo rfl rfl|exact yi rfl rfl|exact yj rfl rfl|exact yn rfl rfl|exact yh rfl rfl|exact yr rfl rfl|exact ym rfl rfl|exact yq rfl rfl|exact yk (by first | decide | assumption) rfl rfl)) | (guard_target =~ gY (.unOp .not _ _); exact zs rfl) | (guard_target =~ gY (.binOp .lss _ _ _ _); exact zc rfl rfl) | (guard_target =~ gY (.binOp .leq _ _ _ _); exact yz rfl rfl) | (guard_target =~ gY (.binOp .gtr _ _ _ _); exact yv rfl rfl) | (guard_target =~ gY (.binOp .geq _ _ _ _); exact yu rfl rfl) | (guard_target =~ gY (.binOp .add _ _ _ _); exact ya rfl rfl (by omega)) | (guard_target =~ gY (.binOp .sub _ _ _ _); exact zw rfl rfl (by omega)) | (guard_target =~ gY (.call _); (first| exact yx rfl|exact yy rfl)) | (guard_target =~ gY (.build _ _); exact yg rfl rfl) | (guard_target =~ gY (.indexAddr _ _ _); exact yw rfl rfl (by omega) (by omega))) ?_
          | refine WU.skip rfl rfl rfl ?_)
      | (guard_target =~ gW (.seq _ _); refine W.seq ?_)
      | (guard_target =~ gW (.region _ _ false); refine W.reg ?_)
      | (guard_target =~ gW (.cond _ _ _); first | refine W.cond_t rfl ?_ | refine W.cond_f rfl ?_)
      | (guard_target =~ gW (.block _ _); refine W.block ?_)
      | (guard_target =~ gW .skip; refine W.skip ?_)
      | (guard_target =~ gW (.exit _); refine W.exit ?_)
      | (guard_target =~ gW .ret; refine W.ret ?_)
      | (guard_target =~ gT .normal; refine thn_normal ?_)
      | (guard_target =~ gT (.exit _); refine thn_exit ?_)
      | (guard_target =~ gT .ret; refine thn_ret ?_)
      | (guard_target =~ gI .normal; refine inb_normal ?_)
      | (guard_target =~ gI (.exit _); first | refine inb_hit ?_ | refine inb_miss rfl ?_)
      | (guard_target =~ gI .ret; refine inb_ret ?_)))
  refine W.loop (σ := Nat) (fun i => [(13, .int .i64 i), (12, .int .i64 l.length), (11, .slice sa l.length sc), (5, .bool (wantTo (l.take i))), (0, .slice sa l.length sc), (1, .int .i64 n)])
    (fun i D w' => D = [] ∧ i ≤ l.length ∧ Ext w w') (fun i => l.length - i) 0 ⟨rfl, Nat.zero_le _, Ext.rfl' _⟩ (by exact sub_of ⟨rfl, rfl, rfl, rfl, rfl, rfl, trivial⟩) ?_
  rintro i D wr ⟨rfl, hi, xr⟩
  (repeat (first
      | (guard_target =~ gU _; first
          | (guard_target =~ gU []; first | refine WU.nilk ?_ | refine WU.nil ?_)
          | refine WU.yld rfl rfl rfl (by first | (guard_target =~ gY (.move _); exact ze rfl) | (guard_target =~ gY (.assign _); exact yf rfl) | (guard_target =~ gY (.load _ _); (first| exact za rfl rfl|exact zb rfl)) | (guard_target =~ gY (.fieldAddr _ _ _); exact yt rfl) | (guard_target =~ gY (.nilCheck _); (first| exact zq rfl|exact zr rfl)) | (guard_target =~ gY (.extract _ _); exact ys rfl rfl) | (guard_target =~ gY (.typeAssert _ _ _ true); (first| exact ye rfl rfl|exact yd rfl rfl (by first | rfl | assumption)|exact yc rfl rfl)) | (guard_target =~ gY (.typeAssert _ _ _ false); exact yb rfl rfl) | (guard_target =~ gY (.makeInterface _ _); exact zd rfl rfl) | (guard_target =~ gY (.pick _ _ _); (first| exact zv rfl rfl|exact zu rfl rfl|exact zt rfl rfl rfl)) | (guard_target =~ gY (.binOp .neq _ _ _ _); (first| exact zj rfl rfl|exact zn rfl rfl|exact zm rfl rfl|exact zg rfl rfl|exact zh rfl rfl|exact zl rfl rfl|exact zf rfl rfl|exact zp rfl rfl|exact zk rfl rfl|exact zo rfl rfl|exact zi (by first | decide | assumption) rfl rfl)) | (guard_target =~ gY (.binOp .eql _ _ _ _); (first| exact yl rfl rfl|exact yp rfl rfl|exact yo rfl rfl|exact yi rfl rfl|exact yj rfl rfl|exact yn rfl rfl|exact yh rfl rfl|exact yr rfl rfl|exact ym rfl rfl|exact yq rfl rfl|exact yk (by first | decide | assumption) rfl rfl)) | (guard_target =~ gY (.unOp .not _ _); exact zs rfl) | (guard_target =~ gY (.binOp .lss _ _ _ _); exact zc rfl rfl) | (guard_target =~ gY (.binOp .leq _ _ _ _); exact yz rfl rfl) | (guard_target =~ gY (.binOp .gtr _ _ _ _); exact yv rfl rfl) | (guard_target =~ gY (.binOp .geq _ _ _ _); exact yu rfl rfl) | (guard_target =~ gY (.binOp .add _ _ _ _); exact ya rfl rfl (by omega)) | (guard_target =~ gY (.binOp .sub _ _ _ _); exact zw rfl rfl (by omega)) | (guard_target =~ gY (.call _); (first| exact yx rfl|exact yy rfl)) | (guard_target =~ gY (.build _ _); exact yg rfl rfl) | (guard_target =~ gY (.indexAddr _ _ _); exact yw rfl rfl (by omega) (by omega))) ?_
          | refine WU.skip rfl rfl rfl ?_)
      | (guard_target =~ gW (.seq _ _); refine W.seq ?_)
      | (guard_target =~ gW (.region _ _ false); refine W.reg ?_)
      | (guard_target =~ gW (.cond _ _ _); first | refine W.cond_t rfl ?_ | refine W.cond_f rfl ?_)
      | (guard_target =~ gW (.block _ _); refine W.block ?_)
      | (guard_target =~ gW .skip; refine W.skip ?_)
      | (guard_target =~ gW (.exit _); refine W.exit ?_)
      | (guard_target =~ gW .ret; refine W.ret ?_)
      | (guard_target =~ gT .normal; refine thn_normal ?_)
      | (guard_target =~ gT (.exit _); refine thn_exit ?_)
      | (guard_target =~ gT .ret; refine thn_ret ?_)
      | (guard_target =~ gI .normal; refine inb_normal ?_)
      | (guard_target =~ gI (.exit _); first | refine inb_hit ?_ | refine inb_miss rfl ?_)
      | (guard_target =~ gI .ret; refine inb_ret ?_)))
  by_cases hlt : i < l.length
  · rw [show decide ((i : Int) < (l.length : Int)) = true from decide_eq_true (by omega)]
    have hsu := wantTo_succ l i hlt
    rcases hI with ⟨_, h1, h2⟩ | ⟨b, o, c', h1, hc⟩
    · subst h2; simp at hlt
    cases h1
    have hcell := xr.cell (hc i l[i] (by simp [hlt]))
    generalize l[i] = z at hcell hsu
    (repeat (first
        | (guard_target =~ gU _; first
            | (guard_target =~ gU []; first | refine WU.nilk ?_ | refine WU.nil ?_)
            | refine WU.yld rfl rfl rfl (by first | (guard_target =~ gY (.move _); exact ze rfl) | (guard_target =~ gY (.assign _); exact yf rfl) | (guard_target =~ gY (.load _ _); (first| exact za rfl rfl|exact zb rfl)) | (guard_target =~ gY (.fieldAddr _ _ _); exact yt rfl) | (guard_target =~ gY (.nilCheck _); (first| exact zq rfl|exact zr rfl)) | (guard_target =~ gY (.extract _ _); exact ys rfl rfl) | (guard_target =~ gY (.typeAssert _ _ _ true); (first| exact ye rfl rfl|exact yd rfl rfl (by first | rfl | assumption)|exact yc rfl rfl)) | (guard_target =~ gY (.typeAssert _ _ _ false); exact yb rfl rfl) | (guard_target =~ gY (.makeInterface _ _); exact zd rfl rfl) | (guard_target =~ gY (.pick _ _ _); (first| exact zv rfl rfl|exact zu rfl rfl|exact zt rfl rfl rfl)) | (guard_target =~ gY (.binOp .neq _ _ _ _); (first| exact zj rfl rfl|exact zn rfl rfl|exact zm rfl rfl|exact zg rfl rfl|exact zh rfl rfl|exact zl rfl rfl|exact zf rfl rfl|exact zp rfl rfl|exact zk rfl rfl|exact zo rfl rfl|exact zi (by first | decide | assumption) rfl rfl)) | (guard_target =~ gY (.binOp .eql _ _ _ _); (first| exact yl rfl rfl|exact yp rfl rfl|exact yo rfl rfl|exact yi rfl rfl|exact yj rfl rfl|exact yn rfl rfl|exact yh rfl rfl|exact yr rfl rfl|exact ym rfl rfl|exact yq rfl rfl|exact yk (by first | decide | assumption) rfl rfl)) | (guard_target =~ gY (.unOp .not _ _); exact zs rfl) | (guard_target =~ gY (.binOp .lss _ _ _ _); exact zc rfl rfl) | (guard_target =~ gY (.binOp .leq _ _ _ _); exact yz rfl rfl) | (guard_target =~ gY (.binOp .gtr _ _ _ _); exact yv rfl rfl) | (guard_target =~ gY (.binOp .geq _ _ _ _); exact yu rfl rfl) | (guard_target =~ gY (.binOp .add _ _ _ _); exact ya rfl rfl (by omega)) | (guard_target =~ gY (.binOp .sub _ _ _ _); exact zw rfl rfl (by omega)) | (guard_target =~ gY (.call _); (first| exact yx rfl|exact yy rfl)) | (guard_target =~ gY (.build _ _); exact yg rfl rfl) | (guard_target =~ gY (.indexAddr _ _ _); exact yw rfl rfl (by omega) (by omega))) ?_
            | refine WU.skip rfl rfl rfl ?_)
        | (guard_target =~ gW (.seq _ _); refine W.seq ?_)
        | (guard_target =~ gW (.region _ _ false); refine W.reg ?_)
        | (guard_target =~ gW (.cond _ _ _); first | refine W.cond_t rfl ?_ | refine W.cond_f rfl ?_)
        | (guard_target =~ gW (.block _ _); refine W.block ?_)
        | (guard_target =~ gW .skip; refine W.skip ?_)
        | (guard_target =~ gW (.exit _); refine W.exit ?_)
        | (guard_target =~ gW .ret; refine W.ret ?_)
        | (guard_target =~ gT .normal; refine thn_normal ?_)
        | (guard_target =~ gT (.exit _); refine thn_exit ?_)
        | (guard_target =~ gT .ret; refine thn_ret ?_)
        | (guard_target =~ gI .normal; refine inb_normal ?_)
        | (guard_target =~ gI (.exit _); first | refine inb_hit ?_ | refine inb_miss rfl ?_)
        | (guard_target =~ gI .ret; refine inb_ret ?_)))
    refine WU.yld rfl rfl rfl (yld_load_c rfl (by simpa using hcell)) ?_
    clear hcell hc
    (repeat (first
        | (guard_target =~ gU _; first
            | (guard_target =~ gU []; first | refine WU.nilk ?_ | refine WU.nil ?_)
            | refine WU.yld rfl rfl rfl (by first | (guard_target =~ gY (.move _); exact ze rfl) | (guard_target =~ gY (.assign _); exact yf rfl) | (guard_target =~ gY (.load _ _); (first| exact za rfl rfl|exact zb rfl)) | (guard_target =~ gY (.fieldAddr _ _ _); exact yt rfl) | (guard_target =~ gY (.nilCheck _); (first| exact zq rfl|exact zr rfl)) | (guard_target =~ gY (.extract _ _); exact ys rfl rfl) | (guard_target =~ gY (.typeAssert _ _ _ true); (first| exact ye rfl rfl|exact yd rfl rfl (by first | rfl | assumption)|exact yc rfl rfl)) | (guard_target =~ gY (.typeAssert _ _ _ false); exact yb rfl rfl) | (guard_target =~ gY (.makeInterface _ _); exact zd rfl rfl) | (guard_target =~ gY (.pick _ _ _); (first| exact zv rfl rfl|exact zu rfl rfl|exact zt rfl rfl rfl)) | (guard_target =~ gY (.binOp .neq _ _ _ _); (first| exact zj rfl rfl|exact zn rfl rfl|exact zm rfl rfl|exact zg rfl rfl|exact zh rfl rfl|exact zl rfl rfl|exact zf rfl rfl|exact zp rfl rfl|exact zk rfl rfl|exact zo rfl rfl|exact zi (by first | decide | assumption) rfl rfl)) | (guard_target =~ gY (.binOp .eql _ _ _ _); (first| exact yl rfl rfl|exact yp rfl rfl|exact yo rfl rfl|exact yi rfl rfl|exact yj rfl rfl|exact yn rfl rfl|exact yh rfl rfl|exact yr rfl rfl|exact ym rfl rfl|exact yq rfl rfl|exact yk (by first | decide | assumption) rfl rfl)) | (guard_target =~ gY (.unOp .not _ _); exact zs rfl) | (guard_target =~ gY (.binOp .lss _ _ _ _); exact zc rfl rfl) | (guard_target =~ gY (.binOp .leq _ _ _ _); exact yz rfl rfl) | (guard_target =~ gY (.binOp .gtr _ _ _ _); exact yv rfl rfl) | (guard_target =~ gY (.binOp .geq _ _ _ _); exact yu rfl rfl) | (guard_target =~ gY (.binOp .add _ _ _ _); exact ya rfl rfl (by omega)) | (guard_target =~ gY (.binOp .sub _ _ _ _); exact zw rfl rfl (by omega)) | (guard_target =~ gY (.call _); (first| exact yx rfl|exact yy rfl)) | (guard_target =~ gY (.build _ _); exact yg rfl rfl) | (guard_target =~ gY (.indexAddr _ _ _); exact yw rfl rfl (by omega) (by omega))) ?_
            | refine WU.skip rfl rfl rfl ?_)
        | (guard_target =~ gW (.seq _ _); refine W.seq ?_)
        | (guard_target =~ gW (.region _ _ false); refine W.reg ?_)
        | (guard_target =~ gW (.cond _ _ _); first | refine W.cond_t rfl ?_ | refine W.cond_f rfl ?_)
        | (guard_target =~ gW (.block _ _); refine W.block ?_)
        | (guard_target =~ gW .skip; refine W.skip ?_)
        | (guard_target =~ gW (.exit _); refine W.exit ?_)
        | (guard_target =~ gW .ret; refine W.ret ?_)
        | (guard_target =~ gT .normal; refine thn_normal ?_)
        | (guard_target =~ gT (.exit _); refine thn_exit ?_)
        | (guard_target =~ gT .ret; refine thn_ret ?_)
        | (guard_target =~ gI .normal; refine inb_normal ?_)
        | (guard_target =~ gI (.exit _); first | refine inb_hit ?_ | refine inb_miss rfl ?_)
        | (guard_target =~ gI .ret; refine inb_ret ?_)))
    refine WU.stp rfl rfl rfl (stp_call rfl (c_step z wr)) ?_
    rintro _ w2 ⟨rfl, x2⟩
    generalize stA z = q at hsu
    refine WU.yld rfl rfl rfl (yld_index_arr rfl rfl (by omega) (by omega) rfl) ?_
    (repeat (first
        | (guard_target =~ gU _; first
            | (guard_target =~ gU []; first | refine WU.nilk ?_ | refine WU.nil ?_)
            | refine WU.yld rfl rfl rfl (by first | (guard_target =~ gY (.move _); exact ze rfl) | (guard_target =~ gY (.assign _); exact yf rfl) | (guard_target =~ gY (.load _ _); (first| exact za rfl rfl|exact zb rfl)) | (guard_target =~ gY (.fieldAddr _ _ _); exact yt rfl) | (guard_target =~ gY (.nilCheck _); (first| exact zq rfl|exact zr rfl)) | (guard_target =~ gY (.extract _ _); exact ys rfl rfl) | (guard_target =~ gY (.typeAssert _ _ _ true); (first| exact ye rfl rfl|exact yd rfl rfl (by first | rfl | assumption)|exact yc rfl rfl)) | (guard_target =~ gY (.typeAssert _ _ _ false); exact yb rfl rfl) | (guard_target =~ gY (.makeInterface _ _); exact zd rfl rfl) | (guard_target =~ gY (.pick _ _ _); (first| exact zv rfl rfl|exact zu rfl rfl|exact zt rfl rfl rfl)) | (guard_target =~ gY (.binOp .neq _ _ _ _); (first| exact zj rfl rfl|exact zn rfl rfl|exact zm rfl rfl|exact zg rfl rfl|exact zh rfl rfl|exact zl rfl rfl|exact zf rfl rfl|exact zp rfl rfl|exact zk rfl rfl|exact zo rfl rfl|exact zi (by first | decide | assumption) rfl rfl)) | (guard_target =~ gY (.binOp .eql _ _ _ _); (first| exact yl rfl rfl|exact yp rfl rfl|exact yo rfl rfl|exact yi rfl rfl|exact yj rfl rfl|exact yn rfl rfl|exact yh rfl rfl|exact yr rfl rfl|exact ym rfl rfl|exact yq rfl rfl|exact yk (by first | decide | assumption) rfl rfl)) | (guard_target =~ gY (.unOp .not _ _); exact zs rfl) | (guard_target =~ gY (.binOp .lss _ _ _ _); exact zc rfl rfl) | (guard_target =~ gY (.binOp .leq _ _ _ _); exact yz rfl rfl) | (guard_target =~ gY (.binOp .gtr _ _ _ _); exact yv rfl rfl) | (guard_target =~ gY (.binOp .geq _ _ _ _); exact yu rfl rfl) | (guard_target =~ gY (.binOp .add _ _ _ _); exact ya rfl rfl (by omega)) | (guard_target =~ gY (.binOp .sub _ _ _ _); exact zw rfl rfl (by omega)) | (guard_target =~ gY (.call _); (first| exact yx rfl|exact yy rfl)) | (guard_target =~ gY (.build _ _); exact yg rfl rfl) | (guard_target =~ gY (.indexAddr _ _ _); exact yw rfl rfl (by omega) (by omega))) ?_
            | refine WU.skip rfl rfl rfl ?_)
        | (guard_target =~ gW (.seq _ _); refine W.seq ?_)
        | (guard_target =~ gW (.region _ _ false); refine W.reg ?_)
        | (guard_target =~ gW (.cond _ _ _); first | refine W.cond_t rfl ?_ | refine W.cond_f rfl ?_)
        | (guard_target =~ gW (.block _ _); refine W.block ?_)
        | (guard_target =~ gW .skip; refine W.skip ?_)
        | (guard_target =~ gW (.exit _); refine W.exit ?_)
        | (guard_target =~ gW .ret; refine W.ret ?_)
        | (guard_target =~ gT .normal; refine thn_normal ?_)
        | (guard_target =~ gT (.exit _); refine thn_exit ?_)
        | (guard_target =~ gT .ret; refine thn_ret ?_)
        | (guard_target =~ gI .normal; refine inb_normal ?_)
        | (guard_target =~ gI (.exit _); first | refine inb_hit ?_ | refine inb_miss rfl ?_)
        | (guard_target =~ gI .ret; refine inb_ret ?_)))
    by_cases h0 : q = 0
    · rw [show (q == 0) = true by simpa using h0]
      (repeat (first
          | (guard_target =~ gU _; first
              | (guard_target =~ gU []; first | refine WU.nilk ?_ | refine WU.nil ?_)
              | refine WU.yld rfl rfl rfl (by first | (guard_target =~ gY (.move _); exact ze rfl) | (guard_target =~ gY (.assign _); exact yf rfl) | (guard_target =~ gY (.load _ _); (first| exact za rfl rfl|exact zb rfl)) | (guard_target =~ gY (.fieldAddr _ _ _); exact yt rfl) | (guard_target =~ gY (.nilCheck _); (first| exact zq rfl|exact zr rfl)) | (guard_target =~ gY (.extract _ _); exact ys rfl rfl) | (guard_target =~ gY (.typeAssert _ _ _ true); (first| exact ye rfl rfl|exact yd rfl rfl (by first | rfl | assumption)|exact yc rfl rfl)) | (guard_target =~ gY (.typeAssert _ _ _ false); exact yb rfl rfl) | (guard_target =~ gY (.makeInterface _ _); exact zd rfl rfl) | (guard_target =~ gY (.pick _ _ _); (first| exact zv rfl rfl|exact zu rfl rfl|exact zt rfl rfl rfl)) | (guard_target =~ gY (.binOp .neq _ _ _ _); (first| exact zj rfl rfl|exact zn rfl rfl|exact zm rfl rfl|exact zg rfl rfl|exact zh rfl rfl|exact zl rfl rfl|exact zf rfl rfl|exact zp rfl rfl|exact zk rfl rfl|exact zo rfl rfl|exact zi (by first | decide | assumption) rfl rfl)) | (guard_target =~ gY (.binOp .eql _ _ _ _); (first| exact yl rfl rfl|exact yp rfl rfl|exact yo rfl rfl|exact yi rfl rfl|exact yj rfl rfl|exact yn rfl rfl|exact yh rfl rfl|exact yr rfl rfl|exact ym rfl rfl|exact yq rfl rfl|exact yk (by first | decide | assumption) rfl rfl)) | (guard_target =~ gY (.unOp .not _ _); exact zs rfl) | (guard_target =~ gY (.binOp .lss _ _ _ _); exact zc rfl rfl) | (guard_target =~ gY (.binOp .leq _ _ _ _); exact yz rfl rfl) | (guard_target =~ gY (.binOp .gtr _ _ _ _); exact yv rfl rfl) | (guard_target =~ gY (.binOp .geq _ _ _ _); exact yu rfl rfl) | (guard_target =~ gY (.binOp .add _ _ _ _); exact ya rfl rfl (by omega)) | (guard_target =~ gY (.binOp .sub _ _ _ _); exact zw rfl rfl (by omega)) | (guard_target =~ gY (.call _); (first| exact yx rfl|exact yy rfl)) | (guard_target =~ gY (.build _ _); exact yg rfl rfl) | (guard_target =~ gY (.indexAddr _ _ _); exact yw rfl rfl (by omega) (by omega))) ?_
              | refine WU.skip rfl rfl rfl ?_)
          | (guard_target =~ gW (.seq _ _); refine W.seq ?_)
          | (guard_target =~ gW (.region _ _ false); refine W.reg ?_)
          | (guard_target =~ gW (.cond _ _ _); first | refine W.cond_t rfl ?_ | refine W.cond_f rfl ?_)
          | (guard_target =~ gW (.block _ _); refine W.block ?_)
          | (guard_target =~ gW .skip; refine W.skip ?_)
          | (guard_target =~ gW (.exit _); refine W.exit ?_)
          | (guard_target =~ gW .ret; refine W.ret ?_)
          | (guard_target =~ gT .normal; refine thn_normal ?_)
          | (guard_target =~ gT (.exit _); refine thn_exit ?_)
          | (guard_target =~ gT .ret; refine thn_ret ?_)
          | (guard_target =~ gI .normal; refine inb_normal ?_)
          | (guard_target =~ gI (.exit _); first | refine inb_hit ?_ | refine inb_miss rfl ?_)
          | (guard_target =~ gI .ret; refine inb_ret ?_)))
      exact ⟨i + 1, by omega, ⟨rfl, by omega, xr.trans x2⟩, sub_of ⟨rfl, rfl, rfl, by show _ = some (Value.bool (wantTo (l.take (i + 1)))); rw [hsu, h0]; rfl, rfl, rfl, trivial⟩⟩
    rw [show (q == 0) = false by simpa using h0]
    (repeat (first
        | (guard_target =~ gU _; first
            | (guard_target =~ gU []; first | refine WU.nilk ?_ | refine WU.nil ?_)
            | refine WU.yld rfl rfl rfl (by first | (guard_target =~ gY (.move _); exact ze rfl) | (guard_target =~ gY (.assign _); exact yf rfl) | (guard_target =~ gY (.load _ _); (first| exact za rfl rfl|exact zb rfl)) | (guard_target =~ gY (.fieldAddr _ _ _); exact yt rfl) | (guard_target =~ gY (.nilCheck _); (first| exact zq rfl|exact zr rfl)) | (guard_target =~ gY (.extract _ _); exact ys rfl rfl) | (guard_target =~ gY (.typeAssert _ _ _ true); (first| exact ye rfl rfl|exact yd rfl rfl (by first | rfl | assumption)|exact yc rfl rfl)) | (guard_target =~ gY (.typeAssert _ _ _ false); exact yb rfl rfl) | (guard_target =~ gY (.makeInterface _ _); exact zd rfl rfl) | (guard_target =~ gY (.pick _ _ _); (first| exact zv rfl rfl|exact zu rfl rfl|exact zt rfl rfl rfl)) | (guard_target =~ gY (.binOp .neq _ _ _ _); (first| exact zj rfl rfl|exact zn rfl rfl|exact zm rfl rfl|exact zg rfl rfl|exact zh rfl rfl|exact zl rfl rfl|exact zf rfl rfl|exact zp rfl rfl|exact zk rfl rfl|exact zo rfl rfl|exact zi (by first | decide | assumption) rfl rfl)) | (guard_target =~ gY (.binOp .eql _ _ _ _); (first| exact yl rfl rfl|exact yp rfl rfl|exact yo rfl rfl|exact yi rfl rfl|exact yj rfl rfl|exact yn rfl rfl|exact yh rfl rfl|exact yr rfl rfl|exact ym rfl rfl|exact yq rfl rfl|exact yk (by first | decide | assumption) rfl rfl)) | (guard_target =~ gY (.unOp .not _ _); exact zs rfl) | (guard_target =~ gY (.binOp .lss _ _ _ _); exact zc rfl rfl) | (guard_target =~ gY (.binOp .leq _ _ _ _); exact yz rfl rfl) | (guard_target =~ gY (.binOp .gtr _ _ _ _); exact yv rfl rfl) | (guard_target =~ gY (.binOp .geq _ _ _ _); exact yu rfl rfl) | (guard_target =~ gY (.binOp .add _ _ _ _); exact ya rfl rfl (by omega)) | (guard_target =~ gY (.binOp .sub _ _ _ _); exact zw rfl rfl (by omega)) | (guard_target =~ gY (.call _); (first| exact yx rfl|exact yy rfl)) | (guard_target =~ gY (.build _ _); exact yg rfl rfl) | (guard_target =~ gY (.indexAddr _ _ _); exact yw rfl rfl (by omega) (by omega))) ?_
            | refine WU.skip rfl rfl rfl ?_)
        | (guard_target =~ gW (.seq _ _); refine W.seq ?_)
        | (guard_target =~ gW (.region _ _ false); refine W.reg ?_)
        | (guard_target =~ gW (.cond _ _ _); first | refine W.cond_t rfl ?_ | refine W.cond_f rfl ?_)
        | (guard_target =~ gW (.block _ _); refine W.block ?_)
        | (guard_target =~ gW .skip; refine W.skip ?_)
        | (guard_target =~ gW (.exit _); refine W.exit ?_)
        | (guard_target =~ gW .ret; refine W.ret ?_)
        | (guard_target =~ gT .normal; refine thn_normal ?_)
        | (guard_target =~ gT (.exit _); refine thn_exit ?_)
        | (guard_target =~ gT .ret; refine thn_ret ?_)
        | (guard_target =~ gI .normal; refine inb_normal ?_)
        | (guard_target =~ gI (.exit _); first | refine inb_hit ?_ | refine inb_miss rfl ?_)
        | (guard_target =~ gI .ret; refine inb_ret ?_)))
    by_cases h3 : q = 3
    · rw [show (q == 3) = true by simpa using h3]
      (repeat (first
          | (guard_target =~ gU _; first
              | (guard_target =~ gU []; first | refine WU.nilk ?_ | refine WU.nil ?_)
              | refine WU.yld rfl rfl rfl (by first | (guard_target =~ gY (.move _); exact ze rfl) | (guard_target =~ gY (.assign _); exact yf rfl) | (guard_target =~ gY (.load _ _); (first| exact za rfl rfl|exact zb rfl)) | (guard_target =~ gY (.fieldAddr _ _ _); exact yt rfl) | (guard_target =~ gY (.nilCheck _); (first| exact zq rfl|exact zr rfl)) | (guard_target =~ gY (.extract _ _); exact ys rfl rfl) | (guard_target =~ gY (.typeAssert _ _ _ true); (first| exact ye rfl rfl|exact yd rfl rfl (by first | rfl | assumption)|exact yc rfl rfl)) | (guard_target =~ gY (.typeAssert _ _ _ false); exact yb rfl rfl) | (guard_target =~ gY (.makeInterface _ _); exact zd rfl rfl) | (guard_target =~ gY (.pick _ _ _); (first| exact zv rfl rfl|exact zu rfl rfl|exact zt rfl rfl rfl)) | (guard_target =~ gY (.binOp .neq _ _ _ _); (first| exact zj rfl rfl|exact zn rfl rfl|exact zm rfl rfl|exact zg rfl rfl|exact zh rfl rfl|exact zl rfl rfl|exact zf rfl rfl|exact zp rfl rfl|exact zk rfl rfl|exact zo rfl rfl|exact zi (by first | decide | assumption) rfl rfl)) | (guard_target =~ gY (.binOp .eql _ _ _ _); (first| exact yl rfl rfl|exact yp rfl rfl|exact yo rfl rfl|exact yi rfl rfl|exact yj rfl rfl|exact yn rfl rfl|exact yh rfl rfl|exact yr rfl rfl|exact ym rfl rfl|exact yq rfl rfl|exact yk (by first | decide | assumption) rfl rfl)) | (guard_target =~ gY (.unOp .not _ _); exact zs rfl) | (guard_target =~ gY (.binOp .lss _ _ _ _); exact zc rfl rfl) | (guard_target =~ gY (.binOp .leq _ _ _ _); exact yz rfl rfl) | (guard_target =~ gY (.binOp .gtr _ _ _ _); exact yv rfl rfl) | (guard_target =~ gY (.binOp .geq _ _ _ _); exact yu rfl rfl) | (guard_target =~ gY (.binOp .add _ _ _ _); exact ya rfl rfl (by omega)) | (guard_target =~ gY (.binOp .sub _ _ _ _); exact zw rfl rfl (by omega)) | (guard_target =~ gY (.call _); (first| exact yx rfl|exact yy rfl)) | (guard_target =~ gY (.build _ _); exact yg rfl rfl) | (guard_target =~ gY (.indexAddr _ _ _); exact yw rfl rfl (by omega) (by omega))) ?_
              | refine WU.skip rfl rfl rfl ?_)
          | (guard_target =~ gW (.seq _ _); refine W.seq ?_)
          | (guard_target =~ gW (.region _ _ false); refine W.reg ?_)
          | (guard_target =~ gW (.cond _ _ _); first | refine W.cond_t rfl ?_ | refine W.cond_f rfl ?_)
          | (guard_target =~ gW (.block _ _); refine W.block ?_)
          | (guard_target =~ gW .skip; refine W.skip ?_)
          | (guard_target =~ gW (.exit _); refine W.exit ?_)
          | (guard_target =~ gW .ret; refine W.ret ?_)
          | (guard_target =~ gT .normal; refine thn_normal ?_)
          | (guard_target =~ gT (.exit _); refine thn_exit ?_)
          | (guard_target =~ gT .ret; refine thn_ret ?_)
          | (guard_target =~ gI .normal; refine inb_normal ?_)
          | (guard_target =~ gI (.exit _); first | refine inb_hit ?_ | refine inb_miss rfl ?_)
          | (guard_target =~ gI .ret; refine inb_ret ?_)))
      exact ⟨i + 1, by omega, ⟨rfl, by omega, xr.trans x2⟩, sub_of ⟨rfl, rfl, rfl, by show _ = some (Value.bool (wantTo (l.take (i + 1)))); rw [hsu, h3]; rfl, rfl, rfl, trivial⟩⟩
    rw [show (q == 3) = false by simpa using h3]
    (repeat (first
        | (guard_target =~ gU _; first
            | (guard_target =~ gU []; first | refine WU.nilk ?_ | refine WU.nil ?_)
            | refine WU.yld rfl rfl rfl (by first | (guard_target =~ gY (.move _); exact ze rfl) | (guard_target =~ gY (.assign _); exact yf rfl) | (guard_target =~ gY (.load _ _); (first| exact za rfl rfl|exact zb rfl)) | (guard_target =~ gY (.fieldAddr _ _ _); exact yt rfl) | (guard_target =~ gY (.nilCheck _); (first| exact zq rfl|exact zr rfl)) | (guard_target =~ gY (.extract _ _); exact ys rfl rfl) | (guard_target =~ gY (.typeAssert _ _ _ true); (first| exact ye rfl rfl|exact yd rfl rfl (by first | rfl | assumption)|exact yc rfl rfl)) | (guard_target =~ gY (.typeAssert _ _ _ false); exact yb rfl rfl) | (guard_target =~ gY (.makeInterface _ _); exact zd rfl rfl) | (guard_target =~ gY (.pick _ _ _); (first| exact zv rfl rfl|exact zu rfl rfl|exact zt rfl rfl rfl)) | (guard_target =~ gY (.binOp .neq _ _ _ _); (first| exact zj rfl rfl|exact zn rfl rfl|exact zm rfl rfl|exact zg rfl rfl|exact zh rfl rfl|exact zl rfl rfl|exact zf rfl rfl|exact zp rfl rfl|exact zk rfl rfl|exact zo rfl rfl|exact zi (by first | decide | assumption) rfl rfl)) | (guard_target =~ gY (.binOp .eql _ _ _ _); (first| exact yl rfl rfl|exact yp rfl rfl|exact yo rfl rfl|exact yi rfl rfl|exact yj rfl rfl|exact yn rfl rfl|exact yh rfl rfl|exact yr rfl rfl|exact ym rfl rfl|exact yq rfl rfl|exact yk (by first | decide | assumption) rfl rfl)) | (guard_target =~ gY (.unOp .not _ _); exact zs rfl) | (guard_target =~ gY (.binOp .lss _ _ _ _); exact zc rfl rfl) | (guard_target =~ gY (.binOp .leq _ _ _ _); exact yz rfl rfl) | (guard_target =~ gY (.binOp .gtr _ _ _ _); exact yv rfl rfl) | (guard_target =~ gY (.binOp .geq _ _ _ _); exact yu rfl rfl) | (guard_target =~ gY (.binOp .add _ _ _ _); exact ya rfl rfl (by omega)) | (guard_target =~ gY (.binOp .sub _ _ _ _); exact zw rfl rfl (by omega)) | (guard_target =~ gY (.call _); (first| exact yx rfl|exact yy rfl)) | (guard_target =~ gY (.build _ _); exact yg rfl rfl) | (guard_target =~ gY (.indexAddr _ _ _); exact yw rfl rfl (by omega) (by omega))) ?_
            | refine WU.skip rfl rfl rfl ?_)
        | (guard_target =~ gW (.seq _ _); refine W.seq ?_)
        | (guard_target =~ gW (.region _ _ false); refine W.reg ?_)
        | (guard_target =~ gW (.cond _ _ _); first | refine W.cond_t rfl ?_ | refine W.cond_f rfl ?_)
        | (guard_target =~ gW (.block _ _); refine W.block ?_)
        | (guard_target =~ gW .skip; refine W.skip ?_)
        | (guard_target =~ gW (.exit _); refine W.exit ?_)
        | (guard_target =~ gW .ret; refine W.ret ?_)
        | (guard_target =~ gT .normal; refine thn_normal ?_)
        | (guard_target =~ gT (.exit _); refine thn_exit ?_)
        | (guard_target =~ gT .ret; refine thn_ret ?_)
        | (guard_target =~ gI .normal; refine inb_normal ?_)
        | (guard_target =~ gI (.exit _); first | refine inb_hit ?_ | refine inb_miss rfl ?_)
        | (guard_target =~ gI .ret; refine inb_ret ?_)))
    by_cases h1 : q = 1
    · rw [show (q == 1) = true by simpa using h1]
      (repeat (first
          | (guard_target =~ gU _; first
              | (guard_target =~ gU []; first | refine WU.nilk ?_ | refine WU.nil ?_)
              | refine WU.yld rfl rfl rfl (by first | (guard_target =~ gY (.move _); exact ze rfl) | (guard_target =~ gY (.assign _); exact yf rfl) | (guard_target =~ gY (.load _ _); (first| exact za rfl rfl|exact zb rfl)) | (guard_target =~ gY (.fieldAddr _ _ _); exact yt rfl) | (guard_target =~ gY (.nilCheck _); (first| exact zq rfl|exact zr rfl)) | (guard_target =~ gY (.extract _ _); exact ys rfl rfl) | (guard_target =~ gY (.typeAssert _ _ _ true); (first| exact ye rfl rfl|exact yd rfl rfl (by first | rfl | assumption)|exact yc rfl rfl)) | (guard_target =~ gY (.typeAssert _ _ _ false); exact yb rfl rfl) | (guard_target =~ gY (.makeInterface _ _); exact zd rfl rfl) | (guard_target =~ gY (.pick _ _ _); (first| exact zv rfl rfl|exact zu rfl rfl|exact zt rfl rfl rfl)) | (guard_target =~ gY (.binOp .neq _ _ _ _); (first| exact zj rfl rfl|exact zn rfl rfl|exact zm rfl rfl|exact zg rfl rfl|exact zh rfl rfl|exact zl rfl rfl|exact zf rfl rfl|exact zp rfl rfl|exact zk rfl rfl|exact zo rfl rfl|exact zi (by first | decide | assumption) rfl rfl)) | (guard_target =~ gY (.binOp .eql _ _ _ _); (first| exact yl rfl rfl|exact yp rfl rfl|exact yo rfl rfl|exact yi rfl rfl|exact yj rfl rfl|exact yn rfl rfl|exact yh rfl rfl|exact yr rfl rfl|exact ym rfl rfl|exact yq rfl rfl|exact yk (by first | decide | assumption) rfl rfl)) | (guard_target =~ gY (.unOp .not _ _); exact zs rfl) | (guard_target =~ gY (.binOp .lss _ _ _ _); exact zc rfl rfl) | (guard_target =~ gY (.binOp .leq _ _ _ _); exact yz rfl rfl) | (guard_target =~ gY (.binOp .gtr _ _ _ _); exact yv rfl rfl) | (guard_target =~ gY (.binOp .geq _ _ _ _); exact yu rfl rfl) | (guard_target =~ gY (.binOp .add _ _ _ _); exact ya rfl rfl (by omega)) | (guard_target =~ gY (.binOp .sub _ _ _ _); exact zw rfl rfl (by omega)) | (guard_target =~ gY (.call _); (first| exact yx rfl|exact yy rfl)) | (guard_target =~ gY (.build _ _); exact yg rfl rfl) | (guard_target =~ gY (.indexAddr _ _ _); exact yw rfl rfl (by omega) (by omega))) ?_
              | refine WU.skip rfl rfl rfl ?_)
          | (guard_target =~ gW (.seq _ _); refine W.seq ?_)
          | (guard_target =~ gW (.region _ _ false); refine W.reg ?_)
          | (guard_target =~ gW (.cond _ _ _); first | refine W.cond_t rfl ?_ | refine W.cond_f rfl ?_)
          | (guard_target =~ gW (.block _ _); refine W.block ?_)
          | (guard_target =~ gW .skip; refine W.skip ?_)
          | (guard_target =~ gW (.exit _); refine W.exit ?_)
          | (guard_target =~ gW .ret; refine W.ret ?_)
          | (guard_target =~ gT .normal; refine thn_normal ?_)
          | (guard_target =~ gT (.exit _); refine thn_exit ?_)
          | (guard_target =~ gT .ret; refine thn_ret ?_)
          | (guard_target =~ gI .normal; refine inb_normal ?_)
          | (guard_target =~ gI (.exit _); first | refine inb_hit ?_ | refine inb_miss rfl ?_)
          | (guard_target =~ gI .ret; refine inb_ret ?_)))
      exact ⟨i + 1, by omega, ⟨rfl, by omega, xr.trans x2⟩, sub_of ⟨rfl, rfl, rfl, by show _ = some (Value.bool (wantTo (l.take (i + 1)))); rw [hsu, h1]; rfl, rfl, rfl, trivial⟩⟩
    rw [show (q == 1) = false by simpa using h1]
    (repeat (first
        | (guard_target =~ gU _; first
            | (guard_target =~ gU []; first | refine WU.nilk ?_ | refine WU.nil ?_)
            | refine WU.yld rfl rfl rfl (by first | (guard_target =~ gY (.move _); exact ze rfl) | (guard_target =~ gY (.assign _); exact yf rfl) | (guard_target =~ gY (.load _ _); (first| exact za rfl rfl|exact zb rfl)) | (guard_target =~ gY (.fieldAddr _ _ _); exact yt rfl) | (guard_target =~ gY (.nilCheck _); (first| exact zq rfl|exact zr rfl)) | (guard_target =~ gY (.extract _ _); exact ys rfl rfl) | (guard_target =~ gY (.typeAssert _ _ _ true); (first| exact ye rfl rfl|exact yd rfl rfl (by first | rfl | assumption)|exact yc rfl rfl)) | (guard_target =~ gY (.typeAssert _ _ _ false); exact yb rfl rfl) | (guard_target =~ gY (.makeInterface _ _); exact zd rfl rfl) | (guard_target =~ gY (.pick _ _ _); (first| exact zv rfl rfl|exact zu rfl rfl|exact zt rfl rfl rfl)) | (guard_target =~ gY (.binOp .neq _ _ _ _); (first| exact zj rfl rfl|exact zn rfl rfl|exact zm rfl rfl|exact zg rfl rfl|exact zh rfl rfl|exact zl rfl rfl|exact zf rfl rfl|exact zp rfl rfl|exact zk rfl rfl|exact zo rfl rfl|exact zi (by first | decide | assumption) rfl rfl)) | (guard_target =~ gY (.binOp .eql _ _ _ _); (first| exact yl rfl rfl|exact yp rfl rfl|exact yo rfl rfl|exact yi rfl rfl|exact yj rfl rfl|exact yn rfl rfl|exact yh rfl rfl|exact yr rfl rfl|exact ym rfl rfl|exact yq rfl rfl|exact yk (by first | decide | assumption) rfl rfl)) | (guard_target =~ gY (.unOp .not _ _); exact zs rfl) | (guard_target =~ gY (.binOp .lss _ _ _ _); exact zc rfl rfl) | (guard_target =~ gY (.binOp .leq _ _ _ _); exact yz rfl rfl) | (guard_target =~ gY (.binOp .gtr _ _ _ _); exact yv rfl rfl) | (guard_target =~ gY (.binOp .geq _ _ _ _); exact yu rfl rfl) | (guard_target =~ gY (.binOp .add _ _ _ _); exact ya rfl rfl (by omega)) | (guard_target =~ gY (.binOp .sub _ _ _ _); exact zw rfl rfl (by omega)) | (guard_target =~ gY (.call _); (first| exact yx rfl|exact yy rfl)) | (guard_target =~ gY (.build _ _); exact yg rfl rfl) | (guard_target =~ gY (.indexAddr _ _ _); exact yw rfl rfl (by omega) (by omega))) ?_
            | refine WU.skip rfl rfl rfl ?_)
        | (guard_target =~ gW (.seq _ _); refine W.seq ?_)
        | (guard_target =~ gW (.region _ _ false); refine W.reg ?_)
        | (guard_target =~ gW (.cond _ _ _); first | refine W.cond_t rfl ?_ | refine W.cond_f rfl ?_)
        | (guard_target =~ gW (.block _ _); refine W.block ?_)
        | (guard_target =~ gW .skip; refine W.skip ?_)
        | (guard_target =~ gW (.exit _); refine W.exit ?_)
        | (guard_target =~ gW .ret; refine W.ret ?_)
        | (guard_target =~ gT .normal; refine thn_normal ?_)
        | (guard_target =~ gT (.exit _); refine thn_exit ?_)
        | (guard_target =~ gT .ret; refine thn_ret ?_)
        | (guard_target =~ gI .normal; refine inb_normal ?_)
        | (guard_target =~ gI (.exit _); first | refine inb_hit ?_ | refine inb_miss rfl ?_)
        | (guard_target =~ gI .ret; refine inb_ret ?_)))
    by_cases h4 : q = 4
    · rw [show (q == 4) = true by simpa using h4]
      (repeat (first
          | (guard_target =~ gU _; first
              | (guard_target =~ gU []; first | refine WU.nilk ?_ | refine WU.nil ?_)
              | refine WU.yld rfl rfl rfl (by first | (guard_target =~ gY (.move _); exact ze rfl) | (guard_target =~ gY (.assign _); exact yf rfl) | (guard_target =~ gY (.load _ _); (first| exact za rfl rfl|exact zb rfl)) | (guard_target =~ gY (.fieldAddr _ _ _); exact yt rfl) | (guard_target =~ gY (.nilCheck _); (first| exact zq rfl|exact zr rfl)) | (guard_target =~ gY (.extract _ _); exact ys rfl rfl) | (guard_target =~ gY (.typeAssert _ _ _ true); (first| exact ye rfl rfl|exact yd rfl rfl (by first | rfl | assumption)|exact yc rfl rfl)) | (guard_target =~ gY (.typeAssert _ _ _ false); exact yb rfl rfl) | (guard_target =~ gY (.makeInterface _ _); exact zd rfl rfl) | (guard_target =~ gY (.pick _ _ _); (first| exact zv rfl rfl|exact zu rfl rfl|exact zt rfl rfl rfl)) | (guard_target =~ gY (.binOp .neq _ _ _ _); (first| exact zj rfl rfl|exact zn rfl rfl|exact zm rfl rfl|exact zg rfl rfl|exact zh rfl rfl|exact zl rfl rfl|exact zf rfl rfl|exact zp rfl rfl|exact zk rfl rfl|exact zo rfl rfl|exact zi (by first | decide | assumption) rfl rfl)) | (guard_target =~ gY (.binOp .eql _ _ _ _); (first| exact yl rfl rfl|exact yp rfl rfl|exact yo rfl rfl|exact yi rfl rfl|exact yj rfl rfl|exact yn rfl rfl|exact yh rfl rfl|exact yr rfl rfl|exact ym rfl rfl|exact yq rfl rfl|exact yk (by first | decide | assumption) rfl rfl)) | (guard_target =~ gY (.unOp .not _ _); exact zs rfl) | (guard_target =~ gY (.binOp .lss _ _ _ _); exact zc rfl rfl) | (guard_target =~ gY (.binOp .leq _ _ _ _); exact yz rfl rfl) | (guard_target =~ gY (.binOp .gtr _ _ _ _); exact yv rfl rfl) | (guard_target =~ gY (.binOp .geq _ _ _ _); exact yu rfl rfl) | (guard_target =~ gY (.binOp .add _ _ _ _); exact ya rfl rfl (by omega)) | (guard_target =~ gY (.binOp .sub _ _ _ _); exact zw rfl rfl (by omega)) | (guard_target =~ gY (.call _); (first| exact yx rfl|exact yy rfl)) | (guard_target =~ gY (.build _ _); exact yg rfl rfl) | (guard_target =~ gY (.indexAddr _ _ _); exact yw rfl rfl (by omega) (by omega))) ?_
              | refine WU.skip rfl rfl rfl ?_)
          | (guard_target =~ gW (.seq _ _); refine W.seq ?_)
          | (guard_target =~ gW (.region _ _ false); refine W.reg ?_)
          | (guard_target =~ gW (.cond _ _ _); first | refine W.cond_t rfl ?_ | refine W.cond_f rfl ?_)
          | (guard_target =~ gW (.block _ _); refine W.block ?_)
          | (guard_target =~ gW .skip; refine W.skip ?_)
          | (guard_target =~ gW (.exit _); refine W.exit ?_)
          | (guard_target =~ gW .ret; refine W.ret ?_)
          | (guard_target =~ gT .normal; refine thn_normal ?_)
          | (guard_target =~ gT (.exit _); refine thn_exit ?_)
          | (guard_target =~ gT .ret; refine thn_ret ?_)
          | (guard_target =~ gI .normal; refine inb_normal ?_)
          | (guard_target =~ gI (.exit _); first | refine inb_hit ?_ | refine inb_miss rfl ?_)
          | (guard_target =~ gI .ret; refine inb_ret ?_)))
      exact ⟨i + 1, by omega, ⟨rfl, by omega, xr.trans x2⟩, sub_of ⟨rfl, rfl, rfl, by show _ = some (Value.bool (wantTo (l.take (i + 1)))); rw [hsu, h4]; rfl, rfl, rfl, trivial⟩⟩
    rw [show (q == 4) = false by simpa using h4]
    (repeat (first
        | (guard_target =~ gU _; first
            | (guard_target =~ gU []; first | refine WU.nilk ?_ | refine WU.nil ?_)
            | refine WU.yld rfl rfl rfl (by first | (guard_target =~ gY (.move _); exact ze rfl) | (guard_target =~ gY (.assign _); exact yf rfl) | (guard_target =~ gY (.load _ _); (first| exact za rfl rfl|exact zb rfl)) | (guard_target =~ gY (.fieldAddr _ _ _); exact yt rfl) | (guard_target =~ gY (.nilCheck _); (first| exact zq rfl|exact zr rfl)) | (guard_target =~ gY (.extract _ _); exact ys rfl rfl) | (guard_target =~ gY (.typeAssert _ _ _ true); (first| exact ye rfl rfl|exact yd rfl rfl (by first | rfl | assumption)|exact yc rfl rfl)) | (guard_target =~ gY (.typeAssert _ _ _ false); exact yb rfl rfl) | (guard_target =~ gY (.makeInterface _ _); exact zd rfl rfl) | (guard_target =~ gY (.pick _ _ _); (first| exact zv rfl rfl|exact zu rfl rfl|exact zt rfl rfl rfl)) | (guard_target =~ gY (.binOp .neq _ _ _ _); (first| exact zj rfl rfl|exact zn rfl rfl|exact zm rfl rfl|exact zg rfl rfl|exact zh rfl rfl|exact zl rfl rfl|exact zf rfl rfl|exact zp rfl rfl|exact zk rfl rfl|exact zo rfl rfl|exact zi (by first | decide | assumption) rfl rfl)) | (guard_target =~ gY (.binOp .eql _ _ _ _); (first| exact yl rfl rfl|exact yp rfl rfl|exact yo rfl rfl|exact yi rfl rfl|exact yj rfl rfl|exact yn rfl rfl|exact yh rfl rfl|exact yr rfl rfl|exact ym rfl rfl|exact yq rfl rfl|exact yk (by first | decide | assumption) rfl rfl)) | (guard_target =~ gY (.unOp .not _ _); exact zs rfl) | (guard_target =~ gY (.binOp .lss _ _ _ _); exact zc rfl rfl) | (guard_target =~ gY (.binOp .leq _ _ _ _); exact yz rfl rfl) | (guard_target =~ gY (.binOp .gtr _ _ _ _); exact yv rfl rfl) | (guard_target =~ gY (.binOp .geq _ _ _ _); exact yu rfl rfl) | (guard_target =~ gY (.binOp .add _ _ _ _); exact ya rfl rfl (by omega)) | (guard_target =~ gY (.binOp .sub _ _ _ _); exact zw rfl rfl (by omega)) | (guard_target =~ gY (.call _); (first| exact yx rfl|exact yy rfl)) | (guard_target =~ gY (.build _ _); exact yg rfl rfl) | (guard_target =~ gY (.indexAddr _ _ _); exact yw rfl rfl (by omega) (by omega))) ?_
            | refine WU.skip rfl rfl rfl ?_)
        | (guard_target =~ gW (.seq _ _); refine W.seq ?_)
        | (guard_target =~ gW (.region _ _ false); refine W.reg ?_)
        | (guard_target =~ gW (.cond _ _ _); first | refine W.cond_t rfl ?_ | refine W.cond_f rfl ?_)
        | (guard_target =~ gW (.block _ _); refine W.block ?_)
        | (guard_target =~ gW .skip; refine W.skip ?_)
        | (guard_target =~ gW (.exit _); refine W.exit ?_)
        | (guard_target =~ gW .ret; refine W.ret ?_)
        | (guard_target =~ gT .normal; refine thn_normal ?_)
        | (guard_target =~ gT (.exit _); refine thn_exit ?_)
        | (guard_target =~ gT .ret; refine thn_ret ?_)
        | (guard_target =~ gI .normal; refine inb_normal ?_)
        | (guard_target =~ gI (.exit _); first | refine inb_hit ?_ | refine inb_miss rfl ?_)
        | (guard_target =~ gI .ret; refine inb_ret ?_)))
    exact ⟨i + 1, by omega, ⟨rfl, by omega, xr.trans x2⟩, sub_of ⟨rfl, rfl, rfl, by show _ = some (Value.bool (wantTo (l.take (i + 1)))); rw [hsu]; unfold cwq; rw [if_neg (by omega), if_neg (by omega)]; rfl, rfl, rfl, trivial⟩⟩
  · rw [show decide ((i : Int) < (l.length : Int)) = false from decide_eq_false (by omega)]
    obtain rfl : i = l.length := by omega
    rw [List.take_length, ← cmpG_chain l n]
    (repeat (first
        | (guard_target =~ gU _; first
            | (guard_target =~ gU []; first | refine WU.nilk ?_ | refine WU.nil ?_)
            | refine WU.yld rfl rfl rfl (by first | (guard_target =~ gY (.move _); exact ze rfl) | (guard_target =~ gY (.assign _); exact yf rfl) | (guard_target =~ gY (.load _ _); (first| exact za rfl rfl|exact zb rfl)) | (guard_target =~ gY (.fieldAddr _ _ _); exact yt rfl) | (guard_target =~ gY (.nilCheck _); (first| exact zq rfl|exact zr rfl)) | (guard_target =~ gY (.extract _ _); exact ys rfl rfl) | (guard_target =~ gY (.typeAssert _ _ _ true); (first| exact ye rfl rfl|exact yd rfl rfl (by first | rfl | assumption)|exact yc rfl rfl)) | (guard_target =~ gY (.typeAssert _ _ _ false); exact yb rfl rfl) | (guard_target =~ gY (.makeInterface _ _); exact zd rfl rfl) | (guard_target =~ gY (.pick _ _ _); (first| exact zv rfl rfl|exact zu rfl rfl|exact zt rfl rfl rfl)) | (guard_target =~ gY (.binOp .neq _ _ _ _); (first| exact zj rfl rfl|exact zn rfl rfl|exact zm rfl rfl|exact zg rfl rfl|exact zh rfl rfl|exact zl rfl rfl|exact zf rfl rfl|exact zp rfl rfl|exact zk rfl rfl|exact zo rfl rfl|exact zi (by first | decide | assumption) rfl rfl)) | (guard_target =~ gY (.binOp .eql _ _ _ _); (first| exact yl rfl rfl|exact yp rfl rfl|exact yo rfl rfl|exact yi rfl rfl|exact yj rfl rfl|exact yn rfl rfl|exact yh rfl rfl|exact yr rfl rfl|exact ym rfl rfl|exact yq rfl rfl|exact yk (by first | decide | assumption) rfl rfl)) | (guard_target =~ gY (.unOp .not _ _); exact zs rfl) | (guard_target =~ gY (.binOp .lss _ _ _ _); exact zc rfl rfl) | (guard_target =~ gY (.binOp .leq _ _ _ _); exact yz rfl rfl) | (guard_target =~ gY (.binOp .gtr _ _ _ _); exact yv rfl rfl) | (guard_target =~ gY (.binOp .geq _ _ _ _); exact yu rfl rfl) | (guard_target =~ gY (.binOp .add _ _ _ _); exact ya rfl rfl (by omega)) | (guard_target =~ gY (.binOp .sub _ _ _ _); exact zw rfl rfl (by omega)) | (guard_target =~ gY (.call _); (first| exact yx rfl|exact yy rfl)) | (guard_target =~ gY (.build _ _); exact yg rfl rfl) | (guard_target =~ gY (.indexAddr _ _ _); exact yw rfl rfl (by omega) (by omega))) ?_
            | refine WU.skip rfl rfl rfl ?_)
        | (guard_target =~ gW (.seq _ _); refine W.seq ?_)
        | (guard_target =~ gW (.region _ _ false); refine W.reg ?_)
        | (guard_target =~ gW (.cond _ _ _); first | refine W.cond_t rfl ?_ | refine W.cond_f rfl ?_)
        | (guard_target =~ gW (.block _ _); refine W.block ?_)
        | (guard_target =~ gW .skip; refine W.skip ?_)
        | (guard_target =~ gW (.exit _); refine W.exit ?_)
        | (guard_target =~ gW .ret; refine W.ret ?_)
        | (guard_target =~ gT .normal; refine thn_normal ?_)
        | (guard_target =~ gT (.exit _); refine thn_exit ?_)
        | (guard_target =~ gT .ret; refine thn_ret ?_)
        | (guard_target =~ gI .normal; refine inb_normal ?_)
        | (guard_target =~ gI (.exit _); first | refine inb_hit ?_ | refine inb_miss rfl ?_)
        | (guard_target =~ gI .ret; refine inb_ret ?_)))
    refine WU.stp rfl rfl rfl (stp_call rfl (c_chain l n _ wr (by omega) (hI.ext xr))) ?_
    rintro _ w2 ⟨b2, k2, n2, a2, lc2, c2, rfl, hd2, x2⟩
    refine WU.stp rfl rfl rfl (stp_call rfl (c_ComparablePlain hd2 (chainT_ok _ _))) ?_
    rintro _ w3 ⟨rfl, x3⟩
    have x0 := xr.trans (x2.trans x3)
    (repeat (first
        | (guard_target =~ gU _; first
            | (guard_target =~ gU []; first | refine WU.nilk ?_ | refine WU.nil ?_)
            | refine WU.yld rfl rfl rfl (by first | (guard_target =~ gY (.move _); exact ze rfl) | (guard_target =~ gY (.assign _); exact yf rfl) | (guard_target =~ gY (.load _ _); (first| exact za rfl rfl|exact zb rfl)) | (guard_target =~ gY (.fieldAddr _ _ _); exact yt rfl) | (guard_target =~ gY (.nilCheck _); (first| exact zq rfl|exact zr rfl)) | (guard_target =~ gY (.extract _ _); exact ys rfl rfl) | (guard_target =~ gY (.typeAssert _ _ _ true); (first| exact ye rfl rfl|exact yd rfl rfl (by first | rfl | assumption)|exact yc rfl rfl)) | (guard_target =~ gY (.typeAssert _ _ _ false); exact yb rfl rfl) | (guard_target =~ gY (.makeInterface _ _); exact zd rfl rfl) | (guard_target =~ gY (.pick _ _ _); (first| exact zv rfl rfl|exact zu rfl rfl|exact zt rfl rfl rfl)) | (guard_target =~ gY (.binOp .neq _ _ _ _); (first| exact zj rfl rfl|exact zn rfl rfl|exact zm rfl rfl|exact zg rfl rfl|exact zh rfl rfl|exact zl rfl rfl|exact zf rfl rfl|exact zp rfl rfl|exact zk rfl rfl|exact zo rfl rfl|exact zi (by first | decide | assumption) rfl rfl)) | (guard_target =~ gY (.binOp .eql _ _ _ _); (first| exact yl rfl rfl|exact yp rfl rfl|exact yo rfl rfl|exact yi rfl rfl|exact yj rfl rfl|exact yn rfl rfl|exact yh rfl rfl|exact yr rfl rfl|exact ym rfl rfl|exact yq rfl rfl|exact yk (by first | decide | assumption) rfl rfl)) | (guard_target =~ gY (.unOp .not _ _); exact zs rfl) | (guard_target =~ gY (.binOp .lss _ _ _ _); exact zc rfl rfl) | (guard_target =~ gY (.binOp .leq _ _ _ _); exact yz rfl rfl) | (guard_target =~ gY (.binOp .gtr _ _ _ _); exact yv rfl rfl) | (guard_target =~ gY (.binOp .geq _ _ _ _); exact yu rfl rfl) | (guard_target =~ gY (.binOp .add _ _ _ _); exact ya rfl rfl (by omega)) | (guard_target =~ gY (.binOp .sub _ _ _ _); exact zw rfl rfl (by omega)) | (guard_target =~ gY (.call _); (first| exact yx rfl|exact yy rfl)) | (guard_target =~ gY (.build _ _); exact yg rfl rfl) | (guard_target =~ gY (.indexAddr _ _ _); exact yw rfl rfl (by omega) (by omega))) ?_
            | refine WU.skip rfl rfl rfl ?_)
        | (guard_target =~ gW (.seq _ _); refine W.seq ?_)
        | (guard_target =~ gW (.region _ _ false); refine W.reg ?_)
        | (guard_target =~ gW (.cond _ _ _); first | refine W.cond_t rfl ?_ | refine W.cond_f rfl ?_)
        | (guard_target =~ gW (.block _ _); refine W.block ?_)
        | (guard_target =~ gW .skip; refine W.skip ?_)
        | (guard_target =~ gW (.exit _); refine W.exit ?_)
        | (guard_target =~ gW .ret; refine W.ret ?_)
        | (guard_target =~ gT .normal; refine thn_normal ?_)
        | (guard_target =~ gT (.exit _); refine thn_exit ?_)
        | (guard_target =~ gT .ret; refine thn_ret ?_)
        | (guard_target =~ gI .normal; refine inb_normal ?_)
        | (guard_target =~ gI (.exit _); first | refine inb_hit ?_ | refine inb_miss rfl ?_)
        | (guard_target =~ gI .ret; refine inb_ret ?_)))
    rw [show (cmpG (chainT l n).gt == cmpG (chainT l n).gt) = true by simp]
    (repeat (first
        | (guard_target =~ gU _; first
            | (guard_target =~ gU []; first | refine WU.nilk ?_ | refine WU.nil ?_)
            | refine WU.yld rfl rfl rfl (by first | (guard_target =~ gY (.move _); exact ze rfl) | (guard_target =~ gY (.assign _); exact yf rfl) | (guard_target =~ gY (.load _ _); (first| exact za rfl rfl|exact zb rfl)) | (guard_target =~ gY (.fieldAddr _ _ _); exact yt rfl) | (guard_target =~ gY (.nilCheck _); (first| exact zq rfl|exact zr rfl)) | (guard_target =~ gY (.extract _ _); exact ys rfl rfl) | (guard_target =~ gY (.typeAssert _ _ _ true); (first| exact ye rfl rfl|exact yd rfl rfl (by first | rfl | assumption)|exact yc rfl rfl)) | (guard_target =~ gY (.typeAssert _ _ _ false); exact yb rfl rfl) | (guard_target =~ gY (.makeInterface _ _); exact zd rfl rfl) | (guard_target =~ gY (.pick _ _ _); (first| exact zv rfl rfl|exact zu rfl rfl|exact zt rfl rfl rfl)) | (guard_target =~ gY (.binOp .neq _ _ _ _); (first| exact zj rfl rfl|exact zn rfl rfl|exact zm rfl rfl|exact zg rfl rfl|exact zh rfl rfl|exact zl rfl rfl|exact zf rfl rfl|exact zp rfl rfl|exact zk rfl rfl|exact zo rfl rfl|exact zi (by first | decide | assumption) rfl rfl)) | (guard_target =~ gY (.binOp .eql _ _ _ _); (first| exact yl rfl rfl|exact yp rfl rfl|exact yo rfl rfl|exact yi rfl rfl|exact yj rfl rfl|exact yn rfl rfl|exact yh rfl rfl|exact yr rfl rfl|exact ym rfl rfl|exact yq rfl rfl|exact yk (by first | decide | assumption) rfl rfl)) | (guard_target =~ gY (.unOp .not _ _); exact zs rfl) | (guard_target =~ gY (.binOp .lss _ _ _ _); exact zc rfl rfl) | (guard_target =~ gY (.binOp .leq _ _ _ _); exact yz rfl rfl) | (guard_target =~ gY (.binOp .gtr _ _ _ _); exact yv rfl rfl) | (guard_target =~ gY (.binOp .geq _ _ _ _); exact yu rfl rfl) | (guard_target =~ gY (.binOp .add _ _ _ _); exact ya rfl rfl (by omega)) | (guard_target =~ gY (.binOp .sub _ _ _ _); exact zw rfl rfl (by omega)) | (guard_target =~ gY (.call _); (first| exact yx rfl|exact yy rfl)) | (guard_target =~ gY (.build _ _); exact yg rfl rfl) | (guard_target =~ gY (.indexAddr _ _ _); exact yw rfl rfl (by omega) (by omega))) ?_
            | refine WU.skip rfl rfl rfl ?_)
        | (guard_target =~ gW (.seq _ _); refine W.seq ?_)
        | (guard_target =~ gW (.region _ _ false); refine W.reg ?_)
        | (guard_target =~ gW (.cond _ _ _); first | refine W.cond_t rfl ?_ | refine W.cond_f rfl ?_)
        | (guard_target =~ gW (.block _ _); refine W.block ?_)
        | (guard_target =~ gW .skip; refine W.skip ?_)
        | (guard_target =~ gW (.exit _); refine W.exit ?_)
        | (guard_target =~ gW .ret; refine W.ret ?_)
        | (guard_target =~ gT .normal; refine thn_normal ?_)
        | (guard_target =~ gT (.exit _); refine thn_exit ?_)
        | (guard_target =~ gT .ret; refine thn_ret ?_)
        | (guard_target =~ gI .normal; refine inb_normal ?_)
        | (guard_target =~ gI (.exit _); first | refine inb_hit ?_ | refine inb_miss rfl ?_)
        | (guard_target =~ gI .ret; refine inb_ret ?_)))
    refine WU.stp rfl rfl rfl (stp_call rfl (c_basic 1 w3)) ?_
    rintro _ w4 ⟨rfl, x4⟩
    refine WU.stp rfl rfl rfl (stp_call rfl (c_ComparablePlain (DRep.basic (x := 0) 1) (by unfold PT.ok; omega))) ?_
    rintro _ w5 ⟨rfl, x5⟩
    (repeat (first
        | (guard_target =~ gU _; first
            | (guard_target =~ gU []; first | refine WU.nilk ?_ | refine WU.nil ?_)
            | refine WU.yld rfl rfl rfl (by first | (guard_target =~ gY (.move _); exact ze rfl) | (guard_target =~ gY (.assign _); exact yf rfl) | (guard_target =~ gY (.load _ _); (first| exact za rfl rfl|exact zb rfl)) | (guard_target =~ gY (.fieldAddr _ _ _); exact yt rfl) | (guard_target =~ gY (.nilCheck _); (first| exact zq rfl|exact zr rfl)) | (guard_target =~ gY (.extract _ _); exact ys rfl rfl) | (guard_target =~ gY (.typeAssert _ _ _ true); (first| exact ye rfl rfl|exact yd rfl rfl (by first | rfl | assumption)|exact yc rfl rfl)) | (guard_target =~ gY (.typeAssert _ _ _ false); exact yb rfl rfl) | (guard_target =~ gY (.makeInterface _ _); exact zd rfl rfl) | (guard_target =~ gY (.pick _ _ _); (first| exact zv rfl rfl|exact zu rfl rfl|exact zt rfl rfl rfl)) | (guard_target =~ gY (.binOp .neq _ _ _ _); (first| exact zj rfl rfl|exact zn rfl rfl|exact zm rfl rfl|exact zg rfl rfl|exact zh rfl rfl|exact zl rfl rfl|exact zf rfl rfl|exact zp rfl rfl|exact zk rfl rfl|exact zo rfl rfl|exact zi (by first | decide | assumption) rfl rfl)) | (guard_target =~ gY (.binOp .eql _ _ _ _); (first| exact yl rfl rfl|exact yp rfl rfl|exact yo rfl rfl|exact yi rfl rfl|exact yj rfl rfl|exact yn rfl rfl|exact yh rfl rfl|exact yr rfl rfl|exact ym rfl rfl|exact yq rfl rfl|exact yk (by first | decide | assumption) rfl rfl)) | (guard_target =~ gY (.unOp .not _ _); exact zs rfl) | (guard_target =~ gY (.binOp .lss _ _ _ _); exact zc rfl rfl) | (guard_target =~ gY (.binOp .leq _ _ _ _); exact yz rfl rfl) | (guard_target =~ gY (.binOp .gtr _ _ _ _); exact yv rfl rfl) | (guard_target =~ gY (.binOp .geq _ _ _ _); exact yu rfl rfl) | (guard_target =~ gY (.binOp .add _ _ _ _); exact ya rfl rfl (by omega)) | (guard_target =~ gY (.binOp .sub _ _ _ _); exact zw rfl rfl (by omega)) | (guard_target =~ gY (.call _); (first| exact yx rfl|exact yy rfl)) | (guard_target =~ gY (.build _ _); exact yg rfl rfl) | (guard_target =~ gY (.indexAddr _ _ _); exact yw rfl rfl (by omega) (by omega))) ?_
            | refine WU.skip rfl rfl rfl ?_)
        | (guard_target =~ gW (.seq _ _); refine W.seq ?_)
        | (guard_target =~ gW (.region _ _ false); refine W.reg ?_)
        | (guard_target =~ gW (.cond _ _ _); first | refine W.cond_t rfl ?_ | refine W.cond_f rfl ?_)
        | (guard_target =~ gW (.block _ _); refine W.block ?_)
        | (guard_target =~ gW .skip; refine W.skip ?_)
        | (guard_target =~ gW (.exit _); refine W.exit ?_)
        | (guard_target =~ gW .ret; refine W.ret ?_)
        | (guard_target =~ gT .normal; refine thn_normal ?_)
        | (guard_target =~ gT (.exit _); refine thn_exit ?_)
        | (guard_target =~ gT .ret; refine thn_ret ?_)
        | (guard_target =~ gI .normal; refine inb_normal ?_)
        | (guard_target =~ gI (.exit _); first | refine inb_hit ?_ | refine inb_miss rfl ?_)
        | (guard_target =~ gI .ret; refine inb_ret ?_)))
    exact fin1 (.inl rfl) rfl rfl ⟨rfl, x0.trans (x4.trans x5)⟩
end Go.Proofs.YtnmodbmaokilaaaGreatDoor

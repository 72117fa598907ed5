/- The plain family, part 5: identical, over plain types. -/
import Derived.Test.YtnmodbmaokilaaaGreatDoorP4
namespace Go.Proofs.YtnmodbmaokilaaaGreatDoor
open Go Go.Kd
set_option maxRecDepth 100000

theorem c_Unalias (T : Nat) (v : Value) (w : World) (hT : Nat.beq T 164 = false) :
    Calls Tryz.prog 43 #[.iface T v] w (Ret fun r w' => r = .iface T v ∧ w = w') := by
  refine W.enter (args := [.iface T v]) Tryz.func43 rfl Tryz.ntmps43 rfl rfl ?_
  (repeat (first
      | (guard_target =~ gU _; first
          | (guard_target =~ gU []; first | refine WU.nilk ?_ )
          | refine WU.yld rfl rfl rfl (by first | (guard_target =~ gY (.move _); exact ze rfl) | (guard_target =~ gY (.assign _); exact yf rfl) | (guard_target =~ gY (.extract _ _); exact ys rfl rfl) | (guard_target =~ gY (.typeAssert _ _ _ true); first | exact yd rfl rfl (by first | rfl | assumption) ) | (guard_target =~ gY (.binOp .neq _ _ _ _); first | exact zm rfl rfl ) ) ?_
          )
      | (guard_target =~ gW (.seq _ _); refine W.seq ?_)
      | (guard_target =~ gW (.region _ _ false); refine W.reg ?_)
      | (guard_target =~ gW (.cond _ _ _); first | refine W.cond_f rfl ?_)
      | (guard_target =~ gW .skip; refine W.skip ?_)
      | (guard_target =~ gW .ret; refine W.ret ?_)
      ))
  exact fin1 (.inl rfl) rfl rfl ⟨rfl, rfl⟩

theorem beq_no {a b : Nat} (h : a ≠ b) : Nat.beq a b = false := by
  cases hb : Nat.beq a b
  · rfl
  · exact absurd (Nat.eq_of_beq_eq_true hb) h
theorem tag_alias (t : GT) : Nat.beq (tagOf t) 164 = false := by cases t <;> rfl

abbrev cmpr (w : World) (bc : Nat) (ig : Bool) : Prop := Has w bc (.cells #[.bool ig, .bool false] 48)

abbrev Idn (ig : Bool) (w : World) (bc : Nat) (vx vy : Value) (r : Bool) : Prop :=
  Calls Tryz.prog 30 #[.pointer (some ⟨bc, 0, none⟩), vx, vy, .pointer none] w
      (Ret fun r' w' => r' = .bool r ∧ Ext w w')

theorem id_same {ig : Bool} {w : World} {bc : Nat} {T b : Nat} [PtrT Tryz.prog T] [CmpT Tryz.prog T] (hp : Pl w b) (hc : cmpr w bc ig) (hal : Nat.beq T 164 = false) :
    Idn ig w bc (.iface T (.pointer (some ⟨b, 0, none⟩))) (.iface T (.pointer (some ⟨b, 0, none⟩))) true := by
  refine W.enter (args := [.pointer (some ⟨bc, 0, none⟩), .iface T (.pointer (some ⟨b, 0, none⟩)), .iface T (.pointer (some ⟨b, 0, none⟩)), .pointer none]) Tryz.func30 rfl Tryz.ntmps30 rfl rfl ?_
  (repeat (first
      | (guard_target =~ gU _; first
          | (guard_target =~ gU []; first | refine WU.nilk ?_ )
          | refine WU.yld rfl rfl rfl (by first | (guard_target =~ gY (.move _); exact ze rfl) | (guard_target =~ gY (.assign _); exact yf rfl) ) ?_
          )
      | (guard_target =~ gW (.seq _ _); refine W.seq ?_)
      | (guard_target =~ gW (.region _ _ false); refine W.reg ?_)
      ))
  refine WU.stp rfl rfl rfl (stp_call rfl (c_Unalias _ _ w hal)) ?_
  rintro _ w2 ⟨rfl, rfl⟩
  (repeat (first
      | (guard_target =~ gU _; first
          | (guard_target =~ gU []; first | refine WU.nilk ?_ )
          | refine WU.yld rfl rfl rfl (by first | (guard_target =~ gY (.move _); exact ze rfl) | (guard_target =~ gY (.assign _); exact yf rfl) ) ?_
          )
      | (guard_target =~ gW (.seq _ _); refine W.seq ?_)
      | (guard_target =~ gW (.region _ _ false); refine W.reg ?_)
      ))
  refine WU.stp rfl rfl rfl (stp_call rfl (c_Unalias _ _ w hal)) ?_
  rintro _ w2 ⟨rfl, rfl⟩
  (repeat (first
      | (guard_target =~ gU _; first
          | (guard_target =~ gU []; first | refine WU.nilk ?_ )
          | refine WU.yld rfl rfl rfl (by first | (guard_target =~ gY (.move _); exact ze rfl) | (guard_target =~ gY (.assign _); exact yf rfl) ) ?_
          )
      | (guard_target =~ gW (.seq _ _); refine W.seq ?_)
      | (guard_target =~ gW (.region _ _ false); refine W.reg ?_)
      ))
  refine WU.yld rfl rfl rfl (yld_eql_ifp rfl rfl) ?_
  rw [show decide ((⟨b, 0, none⟩ : Addr) = ⟨b, 0, none⟩) = true by simp]
  (repeat (first
      | (guard_target =~ gU _; first
          | (guard_target =~ gU []; first | refine WU.nilk ?_ )
          | refine WU.yld rfl rfl rfl (by first | (guard_target =~ gY (.assign _); exact yf rfl) ) ?_
          )
      | (guard_target =~ gW (.seq _ _); refine W.seq ?_)
      | (guard_target =~ gW (.region _ _ false); refine W.reg ?_)
      | (guard_target =~ gW (.cond _ _ _); first | refine W.cond_t rfl ?_ )
      | (guard_target =~ gW .ret; refine W.ret ?_)
      | (guard_target =~ gT .ret; refine thn_ret ?_)
      ))
  exact fin1 (.inl rfl) rfl rfl ⟨rfl, Ext.rfl' _⟩

theorem id_no_basic {ig : Bool} {w : World} {bc bx b T : Nat} (hx : Pl w bx) (hy : Pl w b) (hc : cmpr w bc ig) (hal : Nat.beq T 164 = false) (ht : T ≠ 50) :
    Idn ig w bc (.iface 50 (.pointer (some ⟨bx, 0, none⟩))) (.iface T (.pointer (some ⟨b, 0, none⟩))) false := by
  have hT := beq_no ht
  have hT' : 50 ≠ T := fun h => ht h.symm
  refine W.enter (args := [.pointer (some ⟨bc, 0, none⟩), .iface 50 (.pointer (some ⟨bx, 0, none⟩)), .iface T (.pointer (some ⟨b, 0, none⟩)), .pointer none]) Tryz.func30 rfl Tryz.ntmps30 rfl rfl ?_
  (repeat (first
      | (guard_target =~ gU _; first
          | (guard_target =~ gU []; first | refine WU.nilk ?_ )
          | refine WU.yld rfl rfl rfl (by first | (guard_target =~ gY (.move _); exact ze rfl) | (guard_target =~ gY (.assign _); exact yf rfl) ) ?_
          )
      | (guard_target =~ gW (.seq _ _); refine W.seq ?_)
      | (guard_target =~ gW (.region _ _ false); refine W.reg ?_)
      ))
  refine WU.stp rfl rfl rfl (stp_call rfl (c_Unalias _ _ w rfl)) ?_
  rintro _ w2 ⟨rfl, rfl⟩
  (repeat (first
      | (guard_target =~ gU _; first
          | (guard_target =~ gU []; first | refine WU.nilk ?_ )
          | refine WU.yld rfl rfl rfl (by first | (guard_target =~ gY (.move _); exact ze rfl) | (guard_target =~ gY (.assign _); exact yf rfl) ) ?_
          )
      | (guard_target =~ gW (.seq _ _); refine W.seq ?_)
      | (guard_target =~ gW (.region _ _ false); refine W.reg ?_)
      ))
  refine WU.stp rfl rfl rfl (stp_call rfl (c_Unalias _ _ w hal)) ?_
  rintro _ w2 ⟨rfl, rfl⟩
  (repeat (first
      | (guard_target =~ gU _; first
          | (guard_target =~ gU []; first | refine WU.nilk ?_ )
          | refine WU.yld rfl rfl rfl (by first | (guard_target =~ gY (.move _); exact ze rfl) | (guard_target =~ gY (.assign _); exact yf rfl) | (guard_target =~ gY (.load _ _); first | exact za rfl rfl ) | (guard_target =~ gY (.fieldAddr _ _ _); exact yt rfl) | (guard_target =~ gY (.nilCheck _); first | exact zq rfl ) | (guard_target =~ gY (.extract _ _); exact ys rfl rfl) | (guard_target =~ gY (.typeAssert _ _ _ true); first | exact ye rfl rfl | exact yd rfl rfl (by first | rfl | assumption) ) | (guard_target =~ gY (.pick _ _ _); first | exact zu rfl rfl ) | (guard_target =~ gY (.binOp .eql _ _ _ _); first | exact yk (by first | decide | assumption) rfl rfl) ) ?_
          | refine WU.skip rfl rfl rfl ?_)
      | (guard_target =~ gW (.seq _ _); refine W.seq ?_)
      | (guard_target =~ gW (.region _ _ false); refine W.reg ?_)
      | (guard_target =~ gW (.cond _ _ _); first | refine W.cond_t rfl ?_ | refine W.cond_f rfl ?_)
      | (guard_target =~ gW (.block _ _); refine W.block ?_)
      | (guard_target =~ gW .skip; refine W.skip ?_)
      | (guard_target =~ gW .ret; refine W.ret ?_)
      ))
  exact fin1 (.inl rfl) rfl rfl ⟨rfl, Ext.rfl' _⟩

theorem id_no_ptr {ig : Bool} {w : World} {bc bx b T : Nat} (hx : Pl w bx) (hy : Pl w b) (hc : cmpr w bc ig) (hal : Nat.beq T 164 = false) (ht : T ≠ 54) :
    Idn ig w bc (.iface 54 (.pointer (some ⟨bx, 0, none⟩))) (.iface T (.pointer (some ⟨b, 0, none⟩))) false := by
  have hT := beq_no ht
  have hT' : 54 ≠ T := fun h => ht h.symm
  refine W.enter (args := [.pointer (some ⟨bc, 0, none⟩), .iface 54 (.pointer (some ⟨bx, 0, none⟩)), .iface T (.pointer (some ⟨b, 0, none⟩)), .pointer none]) Tryz.func30 rfl Tryz.ntmps30 rfl rfl ?_
  (repeat (first
      | (guard_target =~ gU _; first
          | (guard_target =~ gU []; first | refine WU.nilk ?_ )
          | refine WU.yld rfl rfl rfl (by first | (guard_target =~ gY (.move _); exact ze rfl) | (guard_target =~ gY (.assign _); exact yf rfl) ) ?_
          )
      | (guard_target =~ gW (.seq _ _); refine W.seq ?_)
      | (guard_target =~ gW (.region _ _ false); refine W.reg ?_)
      ))
  refine WU.stp rfl rfl rfl (stp_call rfl (c_Unalias _ _ w rfl)) ?_
  rintro _ w2 ⟨rfl, rfl⟩
  (repeat (first
      | (guard_target =~ gU _; first
          | (guard_target =~ gU []; first | refine WU.nilk ?_ )
          | refine WU.yld rfl rfl rfl (by first | (guard_target =~ gY (.move _); exact ze rfl) | (guard_target =~ gY (.assign _); exact yf rfl) ) ?_
          )
      | (guard_target =~ gW (.seq _ _); refine W.seq ?_)
      | (guard_target =~ gW (.region _ _ false); refine W.reg ?_)
      ))
  refine WU.stp rfl rfl rfl (stp_call rfl (c_Unalias _ _ w hal)) ?_
  rintro _ w2 ⟨rfl, rfl⟩
  (repeat (first
      | (guard_target =~ gU _; first
          | (guard_target =~ gU []; first | refine WU.nilk ?_ )
          | refine WU.yld rfl rfl rfl (by first | (guard_target =~ gY (.move _); exact ze rfl) | (guard_target =~ gY (.assign _); exact yf rfl) | (guard_target =~ gY (.load _ _); first | exact za rfl rfl ) | (guard_target =~ gY (.fieldAddr _ _ _); exact yt rfl) | (guard_target =~ gY (.nilCheck _); first | exact zq rfl ) | (guard_target =~ gY (.extract _ _); exact ys rfl rfl) | (guard_target =~ gY (.typeAssert _ _ _ true); first | exact ye rfl rfl | exact yd rfl rfl (by first | rfl | assumption) ) | (guard_target =~ gY (.pick _ _ _); first | exact zu rfl rfl ) | (guard_target =~ gY (.binOp .eql _ _ _ _); first | exact yk (by first | decide | assumption) rfl rfl) ) ?_
          | refine WU.skip rfl rfl rfl ?_)
      | (guard_target =~ gW (.seq _ _); refine W.seq ?_)
      | (guard_target =~ gW (.region _ _ false); refine W.reg ?_)
      | (guard_target =~ gW (.cond _ _ _); first | refine W.cond_t rfl ?_ | refine W.cond_f rfl ?_)
      | (guard_target =~ gW (.block _ _); refine W.block ?_)
      | (guard_target =~ gW .skip; refine W.skip ?_)
      | (guard_target =~ gW .ret; refine W.ret ?_)
      ))
  exact fin1 (.inl rfl) rfl rfl ⟨rfl, Ext.rfl' _⟩

theorem id_no_slice {ig : Bool} {w : World} {bc bx b T : Nat} (hx : Pl w bx) (hy : Pl w b) (hc : cmpr w bc ig) (hal : Nat.beq T 164 = false) (ht : T ≠ 56) :
    Idn ig w bc (.iface 56 (.pointer (some ⟨bx, 0, none⟩))) (.iface T (.pointer (some ⟨b, 0, none⟩))) false := by
  have hT := beq_no ht
  have hT' : 56 ≠ T := fun h => ht h.symm
  refine W.enter (args := [.pointer (some ⟨bc, 0, none⟩), .iface 56 (.pointer (some ⟨bx, 0, none⟩)), .iface T (.pointer (some ⟨b, 0, none⟩)), .pointer none]) Tryz.func30 rfl Tryz.ntmps30 rfl rfl ?_
  (repeat (first
      | (guard_target =~ gU _; first
          | (guard_target =~ gU []; first | refine WU.nilk ?_ )
          | refine WU.yld rfl rfl rfl (by first | (guard_target =~ gY (.move _); exact ze rfl) | (guard_target =~ gY (.assign _); exact yf rfl) ) ?_
          )
      | (guard_target =~ gW (.seq _ _); refine W.seq ?_)
      | (guard_target =~ gW (.region _ _ false); refine W.reg ?_)
      ))
  refine WU.stp rfl rfl rfl (stp_call rfl (c_Unalias _ _ w rfl)) ?_
  rintro _ w2 ⟨rfl, rfl⟩
  (repeat (first
      | (guard_target =~ gU _; first
          | (guard_target =~ gU []; first | refine WU.nilk ?_ )
          | refine WU.yld rfl rfl rfl (by first | (guard_target =~ gY (.move _); exact ze rfl) | (guard_target =~ gY (.assign _); exact yf rfl) ) ?_
          )
      | (guard_target =~ gW (.seq _ _); refine W.seq ?_)
      | (guard_target =~ gW (.region _ _ false); refine W.reg ?_)
      ))
  refine WU.stp rfl rfl rfl (stp_call rfl (c_Unalias _ _ w hal)) ?_
  rintro _ w2 ⟨rfl, rfl⟩
  (repeat (first
      | (guard_target =~ gU _; first
          | (guard_target =~ gU []; first | refine WU.nilk ?_ )
          | refine WU.yld rfl rfl rfl (by first | (guard_target =~ gY (.move _); exact ze rfl) | (guard_target =~ gY (.assign _); exact yf rfl) | (guard_target =~ gY (.load _ _); first | exact za rfl rfl ) | (guard_target =~ gY (.fieldAddr _ _ _); exact yt rfl) | (guard_target =~ gY (.nilCheck _); first | exact zq rfl ) | (guard_target =~ gY (.extract _ _); exact ys rfl rfl) | (guard_target =~ gY (.typeAssert _ _ _ true); first | exact ye rfl rfl | exact yd rfl rfl (by first | rfl | assumption) ) | (guard_target =~ gY (.pick _ _ _); first | exact zu rfl rfl ) | (guard_target =~ gY (.binOp .eql _ _ _ _); first | exact yk (by first | decide | assumption) rfl rfl) ) ?_
          | refine WU.skip rfl rfl rfl ?_)
      | (guard_target =~ gW (.seq _ _); refine W.seq ?_)
      | (guard_target =~ gW (.region _ _ false); refine W.reg ?_)
      | (guard_target =~ gW (.cond _ _ _); first | refine W.cond_t rfl ?_ | refine W.cond_f rfl ?_)
      | (guard_target =~ gW (.block _ _); refine W.block ?_)
      | (guard_target =~ gW .skip; refine W.skip ?_)
      | (guard_target =~ gW .ret; refine W.ret ?_)
      ))
  exact fin1 (.inl rfl) rfl rfl ⟨rfl, Ext.rfl' _⟩

theorem id_no_array {ig : Bool} {w : World} {bc bx b T : Nat} (hx : Pl w bx) (hy : Pl w b) (hc : cmpr w bc ig) (hal : Nat.beq T 164 = false) (ht : T ≠ 58) :
    Idn ig w bc (.iface 58 (.pointer (some ⟨bx, 0, none⟩))) (.iface T (.pointer (some ⟨b, 0, none⟩))) false := by
  have hT := beq_no ht
  have hT' : 58 ≠ T := fun h => ht h.symm
  refine W.enter (args := [.pointer (some ⟨bc, 0, none⟩), .iface 58 (.pointer (some ⟨bx, 0, none⟩)), .iface T (.pointer (some ⟨b, 0, none⟩)), .pointer none]) Tryz.func30 rfl Tryz.ntmps30 rfl rfl ?_
  (repeat (first
      | (guard_target =~ gU _; first
          | (guard_target =~ gU []; first | refine WU.nilk ?_ )
          | refine WU.yld rfl rfl rfl (by first | (guard_target =~ gY (.move _); exact ze rfl) | (guard_target =~ gY (.assign _); exact yf rfl) ) ?_
          )
      | (guard_target =~ gW (.seq _ _); refine W.seq ?_)
      | (guard_target =~ gW (.region _ _ false); refine W.reg ?_)
      ))
  refine WU.stp rfl rfl rfl (stp_call rfl (c_Unalias _ _ w rfl)) ?_
  rintro _ w2 ⟨rfl, rfl⟩
  (repeat (first
      | (guard_target =~ gU _; first
          | (guard_target =~ gU []; first | refine WU.nilk ?_ )
          | refine WU.yld rfl rfl rfl (by first | (guard_target =~ gY (.move _); exact ze rfl) | (guard_target =~ gY (.assign _); exact yf rfl) ) ?_
          )
      | (guard_target =~ gW (.seq _ _); refine W.seq ?_)
      | (guard_target =~ gW (.region _ _ false); refine W.reg ?_)
      ))
  refine WU.stp rfl rfl rfl (stp_call rfl (c_Unalias _ _ w hal)) ?_
  rintro _ w2 ⟨rfl, rfl⟩
  (repeat (first
      | (guard_target =~ gU _; first
          | (guard_target =~ gU []; first | refine WU.nilk ?_ )
          | refine WU.yld rfl rfl rfl (by first | (guard_target =~ gY (.move _); exact ze rfl) | (guard_target =~ gY (.assign _); exact yf rfl) | (guard_target =~ gY (.load _ _); first | exact za rfl rfl ) | (guard_target =~ gY (.fieldAddr _ _ _); exact yt rfl) | (guard_target =~ gY (.nilCheck _); first | exact zq rfl ) | (guard_target =~ gY (.extract _ _); exact ys rfl rfl) | (guard_target =~ gY (.typeAssert _ _ _ true); first | exact ye rfl rfl | exact yd rfl rfl (by first | rfl | assumption) ) | (guard_target =~ gY (.pick _ _ _); first | exact zu rfl rfl ) | (guard_target =~ gY (.binOp .eql _ _ _ _); first | exact yk (by first | decide | assumption) rfl rfl) ) ?_
          | refine WU.skip rfl rfl rfl ?_)
      | (guard_target =~ gW (.seq _ _); refine W.seq ?_)
      | (guard_target =~ gW (.region _ _ false); refine W.reg ?_)
      | (guard_target =~ gW (.cond _ _ _); first | refine W.cond_t rfl ?_ | refine W.cond_f rfl ?_)
      | (guard_target =~ gW (.block _ _); refine W.block ?_)
      | (guard_target =~ gW .skip; refine W.skip ?_)
      | (guard_target =~ gW .ret; refine W.ret ?_)
      ))
  exact fin1 (.inl rfl) rfl rfl ⟨rfl, Ext.rfl' _⟩

theorem id_no_chan {ig : Bool} {w : World} {bc bx b T : Nat} (hx : Pl w bx) (hy : Pl w b) (hc : cmpr w bc ig) (hal : Nat.beq T 164 = false) (ht : T ≠ 60) :
    Idn ig w bc (.iface 60 (.pointer (some ⟨bx, 0, none⟩))) (.iface T (.pointer (some ⟨b, 0, none⟩))) false := by
  have hT := beq_no ht
  have hT' : 60 ≠ T := fun h => ht h.symm
  refine W.enter (args := [.pointer (some ⟨bc, 0, none⟩), .iface 60 (.pointer (some ⟨bx, 0, none⟩)), .iface T (.pointer (some ⟨b, 0, none⟩)), .pointer none]) Tryz.func30 rfl Tryz.ntmps30 rfl rfl ?_
  (repeat (first
      | (guard_target =~ gU _; first
          | (guard_target =~ gU []; first | refine WU.nilk ?_ )
          | refine WU.yld rfl rfl rfl (by first | (guard_target =~ gY (.move _); exact ze rfl) | (guard_target =~ gY (.assign _); exact yf rfl) ) ?_
          )
      | (guard_target =~ gW (.seq _ _); refine W.seq ?_)
      | (guard_target =~ gW (.region _ _ false); refine W.reg ?_)
      ))
  refine WU.stp rfl rfl rfl (stp_call rfl (c_Unalias _ _ w rfl)) ?_
  rintro _ w2 ⟨rfl, rfl⟩
  (repeat (first
      | (guard_target =~ gU _; first
          | (guard_target =~ gU []; first | refine WU.nilk ?_ )
          | refine WU.yld rfl rfl rfl (by first | (guard_target =~ gY (.move _); exact ze rfl) | (guard_target =~ gY (.assign _); exact yf rfl) ) ?_
          )
      | (guard_target =~ gW (.seq _ _); refine W.seq ?_)
      | (guard_target =~ gW (.region _ _ false); refine W.reg ?_)
      ))
  refine WU.stp rfl rfl rfl (stp_call rfl (c_Unalias _ _ w hal)) ?_
  rintro _ w2 ⟨rfl, rfl⟩
  (repeat (first
      | (guard_target =~ gU _; first
          | (guard_target =~ gU []; first | refine WU.nilk ?_ )
          | refine WU.yld rfl rfl rfl (by first | (guard_target =~ gY (.move _); exact ze rfl) | (guard_target =~ gY (.assign _); exact yf rfl) | (guard_target =~ gY (.load _ _); first | exact za rfl rfl ) | (guard_target =~ gY (.fieldAddr _ _ _); exact yt rfl) | (guard_target =~ gY (.nilCheck _); first | exact zq rfl ) | (guard_target =~ gY (.extract _ _); exact ys rfl rfl) | (guard_target =~ gY (.typeAssert _ _ _ true); first | exact ye rfl rfl | exact yd rfl rfl (by first | rfl | assumption) ) | (guard_target =~ gY (.pick _ _ _); first | exact zu rfl rfl ) | (guard_target =~ gY (.binOp .eql _ _ _ _); first | exact yk (by first | decide | assumption) rfl rfl) ) ?_
          | refine WU.skip rfl rfl rfl ?_)
      | (guard_target =~ gW (.seq _ _); refine W.seq ?_)
      | (guard_target =~ gW (.region _ _ false); refine W.reg ?_)
      | (guard_target =~ gW (.cond _ _ _); first | refine W.cond_t rfl ?_ | refine W.cond_f rfl ?_)
      | (guard_target =~ gW (.block _ _); refine W.block ?_)
      | (guard_target =~ gW .skip; refine W.skip ?_)
      | (guard_target =~ gW .ret; refine W.ret ?_)
      ))
  exact fin1 (.inl rfl) rfl rfl ⟨rfl, Ext.rfl' _⟩

theorem id_no_map {ig : Bool} {w : World} {bc bx b T : Nat} (hx : Pl w bx) (hy : Pl w b) (hc : cmpr w bc ig) (hal : Nat.beq T 164 = false) (ht : T ≠ 64) :
    Idn ig w bc (.iface 64 (.pointer (some ⟨bx, 0, none⟩))) (.iface T (.pointer (some ⟨b, 0, none⟩))) false := by
  have hT := beq_no ht
  have hT' : 64 ≠ T := fun h => ht h.symm
  refine W.enter (args := [.pointer (some ⟨bc, 0, none⟩), .iface 64 (.pointer (some ⟨bx, 0, none⟩)), .iface T (.pointer (some ⟨b, 0, none⟩)), .pointer none]) Tryz.func30 rfl Tryz.ntmps30 rfl rfl ?_
  (repeat (first
      | (guard_target =~ gU _; first
          | (guard_target =~ gU []; first | refine WU.nilk ?_ )
          | refine WU.yld rfl rfl rfl (by first | (guard_target =~ gY (.move _); exact ze rfl) | (guard_target =~ gY (.assign _); exact yf rfl) ) ?_
          )
      | (guard_target =~ gW (.seq _ _); refine W.seq ?_)
      | (guard_target =~ gW (.region _ _ false); refine W.reg ?_)
      ))
  refine WU.stp rfl rfl rfl (stp_call rfl (c_Unalias _ _ w rfl)) ?_
  rintro _ w2 ⟨rfl, rfl⟩
  (repeat (first
      | (guard_target =~ gU _; first
          | (guard_target =~ gU []; first | refine WU.nilk ?_ )
          | refine WU.yld rfl rfl rfl (by first | (guard_target =~ gY (.move _); exact ze rfl) | (guard_target =~ gY (.assign _); exact yf rfl) ) ?_
          )
      | (guard_target =~ gW (.seq _ _); refine W.seq ?_)
      | (guard_target =~ gW (.region _ _ false); refine W.reg ?_)
      ))
  refine WU.stp rfl rfl rfl (stp_call rfl (c_Unalias _ _ w hal)) ?_
  rintro _ w2 ⟨rfl, rfl⟩
  (repeat (first
      | (guard_target =~ gU _; first
          | (guard_target =~ gU []; first | refine WU.nilk ?_ )
          | refine WU.yld rfl rfl rfl (by first | (guard_target =~ gY (.move _); exact ze rfl) | (guard_target =~ gY (.assign _); exact yf rfl) | (guard_target =~ gY (.load _ _); first | exact za rfl rfl ) | (guard_target =~ gY (.fieldAddr _ _ _); exact yt rfl) | (guard_target =~ gY (.nilCheck _); first | exact zq rfl ) | (guard_target =~ gY (.extract _ _); exact ys rfl rfl) | (guard_target =~ gY (.typeAssert _ _ _ true); first | exact ye rfl rfl | exact yd rfl rfl (by first | rfl | assumption) ) | (guard_target =~ gY (.pick _ _ _); first | exact zu rfl rfl ) | (guard_target =~ gY (.binOp .eql _ _ _ _); first | exact yk (by first | decide | assumption) rfl rfl) ) ?_
          | refine WU.skip rfl rfl rfl ?_)
      | (guard_target =~ gW (.seq _ _); refine W.seq ?_)
      | (guard_target =~ gW (.region _ _ false); refine W.reg ?_)
      | (guard_target =~ gW (.cond _ _ _); first | refine W.cond_t rfl ?_ | refine W.cond_f rfl ?_)
      | (guard_target =~ gW (.block _ _); refine W.block ?_)
      | (guard_target =~ gW .skip; refine W.skip ?_)
      | (guard_target =~ gW .ret; refine W.ret ?_)
      ))
  exact fin1 (.inl rfl) rfl rfl ⟨rfl, Ext.rfl' _⟩

set_option maxHeartbeats 1000000 in
theorem id_yes_basic {ig : Bool} {w : World} {bc bx b : Nat} {k k' i i' : Int} {nm nm'} (hx : Has w bx (.cells #[.int .i64 k, .int .i64 i, .string nm] 81)) (hy : Has w b (.cells #[.int .i64 k', .int .i64 i', .string nm'] 81)) (hc : cmpr w bc ig) (hne : bx ≠ b)
     :
    Idn ig w bc (.iface 50 (.pointer (some ⟨bx, 0, none⟩))) (.iface 50 (.pointer (some ⟨b, 0, none⟩))) (k == k') := by
  have hne : decide ((⟨bx, 0, none⟩ : Addr) = ⟨b, 0, none⟩) = false := decide_eq_false (fun h => hne (congrArg Addr.block h))
  refine W.enter (args := [.pointer (some ⟨bc, 0, none⟩), .iface 50 (.pointer (some ⟨bx, 0, none⟩)), .iface 50 (.pointer (some ⟨b, 0, none⟩)), .pointer none]) Tryz.func30 rfl Tryz.ntmps30 rfl rfl ?_
  (repeat (first
      | (guard_target =~ gU _; first
          | (guard_target =~ gU []; first | refine WU.nilk ?_ )
          | refine WU.yld rfl rfl rfl (by first | (guard_target =~ gY (.move _); exact ze rfl) | (guard_target =~ gY (.assign _); exact yf rfl) ) ?_
          )
      | (guard_target =~ gW (.seq _ _); refine W.seq ?_)
      | (guard_target =~ gW (.region _ _ false); refine W.reg ?_)
      ))
  refine WU.stp rfl rfl rfl (stp_call rfl (c_Unalias _ _ w rfl)) ?_
  rintro _ w2 ⟨rfl, rfl⟩
  (repeat (first
      | (guard_target =~ gU _; first
          | (guard_target =~ gU []; first | refine WU.nilk ?_ )
          | refine WU.yld rfl rfl rfl (by first | (guard_target =~ gY (.move _); exact ze rfl) | (guard_target =~ gY (.assign _); exact yf rfl) ) ?_
          )
      | (guard_target =~ gW (.seq _ _); refine W.seq ?_)
      | (guard_target =~ gW (.region _ _ false); refine W.reg ?_)
      ))
  refine WU.stp rfl rfl rfl (stp_call rfl (c_Unalias _ _ w rfl)) ?_
  rintro _ w2 ⟨rfl, rfl⟩
  (repeat (first
      | (guard_target =~ gU _; first
          | (guard_target =~ gU []; first | refine WU.nilk ?_ )
          | refine WU.yld rfl rfl rfl (by first | (guard_target =~ gY (.move _); exact ze rfl) | (guard_target =~ gY (.assign _); exact yf rfl) ) ?_
          )
      | (guard_target =~ gW (.seq _ _); refine W.seq ?_)
      | (guard_target =~ gW (.region _ _ false); refine W.reg ?_)
      ))
  refine WU.yld rfl rfl rfl (yld_eql_ifp rfl rfl) ?_
  rw [hne]
  (repeat (first
      | (guard_target =~ gU _; first
          | (guard_target =~ gU []; first | refine WU.nilk ?_ )
          | refine WU.yld rfl rfl rfl (by first | (guard_target =~ gY (.move _); exact ze rfl) | (guard_target =~ gY (.assign _); exact yf rfl) | (guard_target =~ gY (.load _ _); first | exact za rfl rfl ) | (guard_target =~ gY (.fieldAddr _ _ _); exact yt rfl) | (guard_target =~ gY (.nilCheck _); first | exact zq rfl ) | (guard_target =~ gY (.extract _ _); exact ys rfl rfl) | (guard_target =~ gY (.typeAssert _ _ _ true); first | exact ye rfl rfl ) | (guard_target =~ gY (.pick _ _ _); first | exact zu rfl rfl ) ) ?_
          | refine WU.skip rfl rfl rfl ?_)
      | (guard_target =~ gW (.seq _ _); refine W.seq ?_)
      | (guard_target =~ gW (.region _ _ false); refine W.reg ?_)
      | (guard_target =~ gW (.cond _ _ _); first | refine W.cond_t rfl ?_ | refine W.cond_f rfl ?_)
      | (guard_target =~ gW (.block _ _); refine W.block ?_)
      | (guard_target =~ gW .skip; refine W.skip ?_)
      ))
  refine W.regD [(0, .q), (1, .q), (2, .q), (3, .q), (4, .q), (5, .q), (6, .q), (7, .q), (8, .q), (9, .q)] (by kernel_rfl) (by kernel_rfl) rfl ?_
  intro w2 x2 _
  (repeat (first
      | (guard_target =~ WD _ _ _ _ [] _ _ _; first | refine WD.nilk ?_ )
      | refine WD.yld rfl rfl rfl rfl (by first | (guard_target =~ gY (.move _); exact ze rfl) | (guard_target =~ gY (.assign _); exact yf rfl) | (guard_target =~ gY (.load _ _); first | exact za rfl rfl ) | (guard_target =~ gY (.fieldAddr _ _ _); exact yt rfl) | (guard_target =~ gY (.nilCheck _); first | exact zq rfl ) | (guard_target =~ gY (.binOp .eql _ _ _ _); first | exact yl rfl rfl ) ) ?_
      ))
  (repeat (first
      | (guard_target =~ gW .ret; refine W.ret ?_)
      | (guard_target =~ gT .ret; refine thn_ret ?_)
      | (guard_target =~ gI .ret; refine inb_ret ?_)))
  exact fin1 (.inl rfl) rfl rfl ⟨rfl, x2⟩

set_option maxHeartbeats 1000000 in
theorem id_yes_ptr {ig : Bool} {w : World} {bc bx b : Nat} {v v' : Value} {r : Bool} (hx : Has w bx (.cells #[v] 107)) (hy : Has w b (.cells #[v'] 107)) (hc : cmpr w bc ig) (hne : bx ≠ b)
    (ih : ∀ w', Ext w w' → Idn ig w' bc v v' r) :
    Idn ig w bc (.iface 54 (.pointer (some ⟨bx, 0, none⟩))) (.iface 54 (.pointer (some ⟨b, 0, none⟩))) r := by
  have hne : decide ((⟨bx, 0, none⟩ : Addr) = ⟨b, 0, none⟩) = false := decide_eq_false (fun h => hne (congrArg Addr.block h))
  refine W.enter (args := [.pointer (some ⟨bc, 0, none⟩), .iface 54 (.pointer (some ⟨bx, 0, none⟩)), .iface 54 (.pointer (some ⟨b, 0, none⟩)), .pointer none]) Tryz.func30 rfl Tryz.ntmps30 rfl rfl ?_
  (repeat (first
      | (guard_target =~ gU _; first
          | (guard_target =~ gU []; first | refine WU.nilk ?_ )
          | refine WU.yld rfl rfl rfl (by first | (guard_target =~ gY (.move _); exact ze rfl) | (guard_target =~ gY (.assign _); exact yf rfl) ) ?_
          )
      | (guard_target =~ gW (.seq _ _); refine W.seq ?_)
      | (guard_target =~ gW (.region _ _ false); refine W.reg ?_)
      ))
  refine WU.stp rfl rfl rfl (stp_call rfl (c_Unalias _ _ w rfl)) ?_
  rintro _ w2 ⟨rfl, rfl⟩
  (repeat (first
      | (guard_target =~ gU _; first
          | (guard_target =~ gU []; first | refine WU.nilk ?_ )
          | refine WU.yld rfl rfl rfl (by first | (guard_target =~ gY (.move _); exact ze rfl) | (guard_target =~ gY (.assign _); exact yf rfl) ) ?_
          )
      | (guard_target =~ gW (.seq _ _); refine W.seq ?_)
      | (guard_target =~ gW (.region _ _ false); refine W.reg ?_)
      ))
  refine WU.stp rfl rfl rfl (stp_call rfl (c_Unalias _ _ w rfl)) ?_
  rintro _ w2 ⟨rfl, rfl⟩
  (repeat (first
      | (guard_target =~ gU _; first
          | (guard_target =~ gU []; first | refine WU.nilk ?_ )
          | refine WU.yld rfl rfl rfl (by first | (guard_target =~ gY (.move _); exact ze rfl) | (guard_target =~ gY (.assign _); exact yf rfl) ) ?_
          )
      | (guard_target =~ gW (.seq _ _); refine W.seq ?_)
      | (guard_target =~ gW (.region _ _ false); refine W.reg ?_)
      ))
  refine WU.yld rfl rfl rfl (yld_eql_ifp rfl rfl) ?_
  rw [hne]
  (repeat (first
      | (guard_target =~ gU _; first
          | (guard_target =~ gU []; first | refine WU.nilk ?_ )
          | refine WU.yld rfl rfl rfl (by first | (guard_target =~ gY (.move _); exact ze rfl) | (guard_target =~ gY (.assign _); exact yf rfl) | (guard_target =~ gY (.load _ _); first | exact za rfl rfl ) | (guard_target =~ gY (.fieldAddr _ _ _); exact yt rfl) | (guard_target =~ gY (.nilCheck _); first | exact zq rfl ) | (guard_target =~ gY (.extract _ _); exact ys rfl rfl) | (guard_target =~ gY (.typeAssert _ _ _ true); first | exact ye rfl rfl | exact yd rfl rfl (by first | rfl | assumption) ) | (guard_target =~ gY (.pick _ _ _); first | exact zu rfl rfl ) ) ?_
          | refine WU.skip rfl rfl rfl ?_)
      | (guard_target =~ gW (.seq _ _); refine W.seq ?_)
      | (guard_target =~ gW (.region _ _ false); refine W.reg ?_)
      | (guard_target =~ gW (.cond _ _ _); first | refine W.cond_t rfl ?_ | refine W.cond_f rfl ?_)
      | (guard_target =~ gW (.block _ _); refine W.block ?_)
      | (guard_target =~ gW .skip; refine W.skip ?_)
      ))
  refine W.regD [(0, .q), (1, .q), (2, .q), (3, .q), (4, .q), (5, .q), (6, .q), (7, .q), (8, .q), (9, .q), (10, .l), (11, .q)] (by kernel_rfl) (by kernel_rfl) rfl ?_
  intro w2 x2 _
  (repeat (first
      | refine WD.yld rfl rfl rfl rfl (by first | (guard_target =~ gY (.move _); exact ze rfl) | (guard_target =~ gY (.load _ _); first | exact za rfl rfl ) | (guard_target =~ gY (.fieldAddr _ _ _); exact yt rfl) | (guard_target =~ gY (.nilCheck _); first | exact zq rfl ) ) ?_
      ))
  refine WD.stp rfl rfl rfl rfl (stp_call rfl (ih _ x2)) ?_
  rintro _ w3 ⟨rfl, x3⟩
  refine ⟨by first | assumption | exact Ext.rfl' _ | infer_instance, ?_⟩
  (repeat (first
      | (guard_target =~ WD _ _ _ _ [] _ _ _; first | refine WD.nilk ?_ )
      | refine WD.yld rfl rfl rfl rfl (by first | (guard_target =~ gY (.assign _); exact yf rfl) ) ?_
      ))
  (repeat (first
      | (guard_target =~ gW .ret; refine W.ret ?_)
      | (guard_target =~ gT .ret; refine thn_ret ?_)
      | (guard_target =~ gI .ret; refine inb_ret ?_)))
  exact fin1 (.inl rfl) rfl rfl ⟨rfl, (x2.trans x3)⟩

set_option maxHeartbeats 1000000 in
theorem id_yes_slice {ig : Bool} {w : World} {bc bx b : Nat} {v v' : Value} {r : Bool} (hx : Has w bx (.cells #[v] 87)) (hy : Has w b (.cells #[v'] 87)) (hc : cmpr w bc ig) (hne : bx ≠ b)
    (ih : ∀ w', Ext w w' → Idn ig w' bc v v' r) :
    Idn ig w bc (.iface 56 (.pointer (some ⟨bx, 0, none⟩))) (.iface 56 (.pointer (some ⟨b, 0, none⟩))) r := by
  have hne : decide ((⟨bx, 0, none⟩ : Addr) = ⟨b, 0, none⟩) = false := decide_eq_false (fun h => hne (congrArg Addr.block h))
  refine W.enter (args := [.pointer (some ⟨bc, 0, none⟩), .iface 56 (.pointer (some ⟨bx, 0, none⟩)), .iface 56 (.pointer (some ⟨b, 0, none⟩)), .pointer none]) Tryz.func30 rfl Tryz.ntmps30 rfl rfl ?_
  (repeat (first
      | (guard_target =~ gU _; first
          | (guard_target =~ gU []; first | refine WU.nilk ?_ )
          | refine WU.yld rfl rfl rfl (by first | (guard_target =~ gY (.move _); exact ze rfl) | (guard_target =~ gY (.assign _); exact yf rfl) ) ?_
          )
      | (guard_target =~ gW (.seq _ _); refine W.seq ?_)
      | (guard_target =~ gW (.region _ _ false); refine W.reg ?_)
      ))
  refine WU.stp rfl rfl rfl (stp_call rfl (c_Unalias _ _ w rfl)) ?_
  rintro _ w2 ⟨rfl, rfl⟩
  (repeat (first
      | (guard_target =~ gU _; first
          | (guard_target =~ gU []; first | refine WU.nilk ?_ )
          | refine WU.yld rfl rfl rfl (by first | (guard_target =~ gY (.move _); exact ze rfl) | (guard_target =~ gY (.assign _); exact yf rfl) ) ?_
          )
      | (guard_target =~ gW (.seq _ _); refine W.seq ?_)
      | (guard_target =~ gW (.region _ _ false); refine W.reg ?_)
      ))
  refine WU.stp rfl rfl rfl (stp_call rfl (c_Unalias _ _ w rfl)) ?_
  rintro _ w2 ⟨rfl, rfl⟩
  (repeat (first
      | (guard_target =~ gU _; first
          | (guard_target =~ gU []; first | refine WU.nilk ?_ )
          | refine WU.yld rfl rfl rfl (by first | (guard_target =~ gY (.move _); exact ze rfl) | (guard_target =~ gY (.assign _); exact yf rfl) ) ?_
          )
      | (guard_target =~ gW (.seq _ _); refine W.seq ?_)
      | (guard_target =~ gW (.region _ _ false); refine W.reg ?_)
      ))
  refine WU.yld rfl rfl rfl (yld_eql_ifp rfl rfl) ?_
  rw [hne]
  (repeat (first
      | (guard_target =~ gU _; first
          | (guard_target =~ gU []; first | refine WU.nilk ?_ )
          | refine WU.yld rfl rfl rfl (by first | (guard_target =~ gY (.move _); exact ze rfl) | (guard_target =~ gY (.assign _); exact yf rfl) | (guard_target =~ gY (.load _ _); first | exact za rfl rfl ) | (guard_target =~ gY (.fieldAddr _ _ _); exact yt rfl) | (guard_target =~ gY (.nilCheck _); first | exact zq rfl ) | (guard_target =~ gY (.extract _ _); exact ys rfl rfl) | (guard_target =~ gY (.typeAssert _ _ _ true); first | exact ye rfl rfl | exact yd rfl rfl (by first | rfl | assumption) ) | (guard_target =~ gY (.pick _ _ _); first | exact zu rfl rfl ) ) ?_
          | refine WU.skip rfl rfl rfl ?_)
      | (guard_target =~ gW (.seq _ _); refine W.seq ?_)
      | (guard_target =~ gW (.region _ _ false); refine W.reg ?_)
      | (guard_target =~ gW (.cond _ _ _); first | refine W.cond_t rfl ?_ | refine W.cond_f rfl ?_)
      | (guard_target =~ gW (.block _ _); refine W.block ?_)
      | (guard_target =~ gW .skip; refine W.skip ?_)
      ))
  refine W.regD [(0, .q), (1, .q), (2, .q), (3, .q), (4, .q), (5, .q), (6, .q), (7, .q), (8, .q), (9, .q), (10, .l), (11, .q)] (by kernel_rfl) (by kernel_rfl) rfl ?_
  intro w2 x2 _
  (repeat (first
      | refine WD.yld rfl rfl rfl rfl (by first | (guard_target =~ gY (.move _); exact ze rfl) | (guard_target =~ gY (.load _ _); first | exact za rfl rfl ) | (guard_target =~ gY (.fieldAddr _ _ _); exact yt rfl) | (guard_target =~ gY (.nilCheck _); first | exact zq rfl ) ) ?_
      ))
  refine WD.stp rfl rfl rfl rfl (stp_call rfl (ih _ x2)) ?_
  rintro _ w3 ⟨rfl, x3⟩
  refine ⟨by first | assumption | exact Ext.rfl' _ | infer_instance, ?_⟩
  (repeat (first
      | (guard_target =~ WD _ _ _ _ [] _ _ _; first | refine WD.nilk ?_ )
      | refine WD.yld rfl rfl rfl rfl (by first | (guard_target =~ gY (.assign _); exact yf rfl) ) ?_
      ))
  (repeat (first
      | (guard_target =~ gW .ret; refine W.ret ?_)
      | (guard_target =~ gT .ret; refine thn_ret ?_)
      | (guard_target =~ gI .ret; refine inb_ret ?_)))
  exact fin1 (.inl rfl) rfl rfl ⟨rfl, (x2.trans x3)⟩

set_option maxHeartbeats 1000000 in
theorem id_yes_array {ig : Bool} {w : World} {bc bx b : Nat} {v v' : Value} {r : Bool} {n n' : Int} (hx : Has w bx (.cells #[.int .i64 n, v] 84)) (hy : Has w b (.cells #[.int .i64 n', v'] 84)) (h0 : 0 ≤ n) (h0' : 0 ≤ n') (hc : cmpr w bc ig) (hne : bx ≠ b)
    (ih : ∀ w', Ext w w' → Idn ig w' bc v v' r) :
    Idn ig w bc (.iface 58 (.pointer (some ⟨bx, 0, none⟩))) (.iface 58 (.pointer (some ⟨b, 0, none⟩))) (n == n' && r) := by
  have hne : decide ((⟨bx, 0, none⟩ : Addr) = ⟨b, 0, none⟩) = false := decide_eq_false (fun h => hne (congrArg Addr.block h))
  refine W.enter (args := [.pointer (some ⟨bc, 0, none⟩), .iface 58 (.pointer (some ⟨bx, 0, none⟩)), .iface 58 (.pointer (some ⟨b, 0, none⟩)), .pointer none]) Tryz.func30 rfl Tryz.ntmps30 rfl rfl ?_
  (repeat (first
      | (guard_target =~ gU _; first
          | (guard_target =~ gU []; first | refine WU.nilk ?_ )
          | refine WU.yld rfl rfl rfl (by first | (guard_target =~ gY (.move _); exact ze rfl) | (guard_target =~ gY (.assign _); exact yf rfl) ) ?_
          )
      | (guard_target =~ gW (.seq _ _); refine W.seq ?_)
      | (guard_target =~ gW (.region _ _ false); refine W.reg ?_)
      ))
  refine WU.stp rfl rfl rfl (stp_call rfl (c_Unalias _ _ w rfl)) ?_
  rintro _ w2 ⟨rfl, rfl⟩
  (repeat (first
      | (guard_target =~ gU _; first
          | (guard_target =~ gU []; first | refine WU.nilk ?_ )
          | refine WU.yld rfl rfl rfl (by first | (guard_target =~ gY (.move _); exact ze rfl) | (guard_target =~ gY (.assign _); exact yf rfl) ) ?_
          )
      | (guard_target =~ gW (.seq _ _); refine W.seq ?_)
      | (guard_target =~ gW (.region _ _ false); refine W.reg ?_)
      ))
  refine WU.stp rfl rfl rfl (stp_call rfl (c_Unalias _ _ w rfl)) ?_
  rintro _ w2 ⟨rfl, rfl⟩
  (repeat (first
      | (guard_target =~ gU _; first
          | (guard_target =~ gU []; first | refine WU.nilk ?_ )
          | refine WU.yld rfl rfl rfl (by first | (guard_target =~ gY (.move _); exact ze rfl) | (guard_target =~ gY (.assign _); exact yf rfl) ) ?_
          )
      | (guard_target =~ gW (.seq _ _); refine W.seq ?_)
      | (guard_target =~ gW (.region _ _ false); refine W.reg ?_)
      ))
  refine WU.yld rfl rfl rfl (yld_eql_ifp rfl rfl) ?_
  rw [hne]
  (repeat (first
      | (guard_target =~ gU _; first
          | (guard_target =~ gU []; first | refine WU.nilk ?_ )
          | refine WU.yld rfl rfl rfl (by first | (guard_target =~ gY (.move _); exact ze rfl) | (guard_target =~ gY (.assign _); exact yf rfl) | (guard_target =~ gY (.load _ _); first | exact za rfl rfl ) | (guard_target =~ gY (.fieldAddr _ _ _); exact yt rfl) | (guard_target =~ gY (.nilCheck _); first | exact zq rfl ) | (guard_target =~ gY (.extract _ _); exact ys rfl rfl) | (guard_target =~ gY (.typeAssert _ _ _ true); first | exact ye rfl rfl | exact yd rfl rfl (by first | rfl | assumption) ) | (guard_target =~ gY (.pick _ _ _); first | exact zu rfl rfl ) ) ?_
          | refine WU.skip rfl rfl rfl ?_)
      | (guard_target =~ gW (.seq _ _); refine W.seq ?_)
      | (guard_target =~ gW (.region _ _ false); refine W.reg ?_)
      | (guard_target =~ gW (.cond _ _ _); first | refine W.cond_t rfl ?_ | refine W.cond_f rfl ?_)
      | (guard_target =~ gW (.block _ _); refine W.block ?_)
      | (guard_target =~ gW .skip; refine W.skip ?_)
      ))
  refine W.regD [(0, .q), (1, .q), (2, .q), (3, .q), (4, .q), (5, .q), (6, .q), (7, .q), (8, .q), (9, .q), (10, .q), (11, .q), (12, .q), (13, .q), (14, .q), (15, .q), (16, .q), (17, .q), (18, .q), (19, .q), (20, .q), (21, .q), (22, .q), (23, .q), (24, .q), (25, .q), (26, .q), (27, .q), (28, .q), (29, .q), (30, .q), (31, .q), (32, .q), (33, .q), (34, .l), (35, .q), (36, .q)] (by kernel_rfl) (by kernel_rfl) rfl ?_
  intro w2 x2 _
  (repeat (first
      | refine WD.yld rfl rfl rfl rfl (by first | (guard_target =~ gY (.move _); exact ze rfl) | (guard_target =~ gY (.load _ _); first | exact za rfl rfl ) | (guard_target =~ gY (.fieldAddr _ _ _); exact yt rfl) | (guard_target =~ gY (.nilCheck _); first | exact zq rfl ) | (guard_target =~ gY (.binOp .lss _ _ _ _); exact zc rfl rfl) ) ?_
      ))
  rw [show decide (n < 0) = false by simpa using h0]
  (repeat (first
      | refine WD.yld rfl rfl rfl rfl (by first | (guard_target =~ gY (.move _); exact ze rfl) | (guard_target =~ gY (.load _ _); first | exact za rfl rfl ) | (guard_target =~ gY (.fieldAddr _ _ _); exact yt rfl) | (guard_target =~ gY (.nilCheck _); first | exact zq rfl ) | (guard_target =~ gY (.pick _ _ _); first | exact zu rfl rfl ) | (guard_target =~ gY (.binOp .lss _ _ _ _); exact zc rfl rfl) ) ?_
      ))
  rw [show decide (n' < 0) = false by simpa using h0']
  (repeat (first
      | refine WD.yld rfl rfl rfl rfl (by first | (guard_target =~ gY (.move _); exact ze rfl) | (guard_target =~ gY (.load _ _); first | exact za rfl rfl ) | (guard_target =~ gY (.fieldAddr _ _ _); exact yt rfl) | (guard_target =~ gY (.nilCheck _); first | exact zq rfl ) | (guard_target =~ gY (.pick _ _ _); first | exact zu rfl rfl ) | (guard_target =~ gY (.binOp .eql _ _ _ _); first | exact yl rfl rfl ) ) ?_
      ))
  cases hn : n == n'
  · (repeat (first
      | (guard_target =~ WD _ _ _ _ [] _ _ _; first | refine WD.nilk ?_ )
      | refine WD.yld rfl rfl rfl rfl (by first | (guard_target =~ gY (.move _); exact ze rfl) | (guard_target =~ gY (.assign _); exact yf rfl) | (guard_target =~ gY (.pick _ _ _); first | exact zu rfl rfl ) ) ?_
      | refine WD.skip rfl rfl rfl rfl ?_))
    (repeat (first
        | (guard_target =~ gW .ret; refine W.ret ?_)
        | (guard_target =~ gT .ret; refine thn_ret ?_)
        | (guard_target =~ gI .ret; refine inb_ret ?_)))
    exact fin1 (.inl rfl) rfl rfl ⟨rfl, x2⟩
  · (repeat (first
      | refine WD.yld rfl rfl rfl rfl (by first | (guard_target =~ gY (.move _); exact ze rfl) | (guard_target =~ gY (.load _ _); first | exact za rfl rfl ) | (guard_target =~ gY (.fieldAddr _ _ _); exact yt rfl) | (guard_target =~ gY (.nilCheck _); first | exact zq rfl ) ) ?_
      ))
    refine WD.stp rfl rfl rfl rfl (stp_call rfl (ih _ x2)) ?_
    rintro _ w3 ⟨rfl, x3⟩
    refine ⟨by first | assumption | exact Ext.rfl' _ | infer_instance, ?_⟩
    (repeat (first
        | (guard_target =~ WD _ _ _ _ [] _ _ _; first | refine WD.nilk ?_ )
        | refine WD.yld rfl rfl rfl rfl (by first | (guard_target =~ gY (.assign _); exact yf rfl) | (guard_target =~ gY (.pick _ _ _); first | exact zv rfl rfl ) ) ?_
        ))
    (repeat (first
        | (guard_target =~ gW .ret; refine W.ret ?_)
        | (guard_target =~ gT .ret; refine thn_ret ?_)
        | (guard_target =~ gI .ret; refine inb_ret ?_)))
    exact fin1 (.inl rfl) rfl rfl ⟨rfl, x2.trans x3⟩

set_option maxHeartbeats 1000000 in
theorem id_yes_chan {ig : Bool} {w : World} {bc bx b : Nat} {v v' : Value} {r : Bool} {n n' : Int} (hx : Has w bx (.cells #[.int .i64 n, v] 142)) (hy : Has w b (.cells #[.int .i64 n', v'] 142)) (hc : cmpr w bc ig) (hne : bx ≠ b)
    (ih : ∀ w', Ext w w' → Idn ig w' bc v v' r) :
    Idn ig w bc (.iface 60 (.pointer (some ⟨bx, 0, none⟩))) (.iface 60 (.pointer (some ⟨b, 0, none⟩))) (n == n' && r) := by
  have hne : decide ((⟨bx, 0, none⟩ : Addr) = ⟨b, 0, none⟩) = false := decide_eq_false (fun h => hne (congrArg Addr.block h))
  refine W.enter (args := [.pointer (some ⟨bc, 0, none⟩), .iface 60 (.pointer (some ⟨bx, 0, none⟩)), .iface 60 (.pointer (some ⟨b, 0, none⟩)), .pointer none]) Tryz.func30 rfl Tryz.ntmps30 rfl rfl ?_
  (repeat (first
      | (guard_target =~ gU _; first
          | (guard_target =~ gU []; first | refine WU.nilk ?_ )
          | refine WU.yld rfl rfl rfl (by first | (guard_target =~ gY (.move _); exact ze rfl) | (guard_target =~ gY (.assign _); exact yf rfl) ) ?_
          )
      | (guard_target =~ gW (.seq _ _); refine W.seq ?_)
      | (guard_target =~ gW (.region _ _ false); refine W.reg ?_)
      ))
  refine WU.stp rfl rfl rfl (stp_call rfl (c_Unalias _ _ w rfl)) ?_
  rintro _ w2 ⟨rfl, rfl⟩
  (repeat (first
      | (guard_target =~ gU _; first
          | (guard_target =~ gU []; first | refine WU.nilk ?_ )
          | refine WU.yld rfl rfl rfl (by first | (guard_target =~ gY (.move _); exact ze rfl) | (guard_target =~ gY (.assign _); exact yf rfl) ) ?_
          )
      | (guard_target =~ gW (.seq _ _); refine W.seq ?_)
      | (guard_target =~ gW (.region _ _ false); refine W.reg ?_)
      ))
  refine WU.stp rfl rfl rfl (stp_call rfl (c_Unalias _ _ w rfl)) ?_
  rintro _ w2 ⟨rfl, rfl⟩
  (repeat (first
      | (guard_target =~ gU _; first
          | (guard_target =~ gU []; first | refine WU.nilk ?_ )
          | refine WU.yld rfl rfl rfl (by first | (guard_target =~ gY (.move _); exact ze rfl) | (guard_target =~ gY (.assign _); exact yf rfl) ) ?_
          )
      | (guard_target =~ gW (.seq _ _); refine W.seq ?_)
      | (guard_target =~ gW (.region _ _ false); refine W.reg ?_)
      ))
  refine WU.yld rfl rfl rfl (yld_eql_ifp rfl rfl) ?_
  rw [hne]
  (repeat (first
      | (guard_target =~ gU _; first
          | (guard_target =~ gU []; first | refine WU.nilk ?_ )
          | refine WU.yld rfl rfl rfl (by first | (guard_target =~ gY (.move _); exact ze rfl) | (guard_target =~ gY (.assign _); exact yf rfl) | (guard_target =~ gY (.load _ _); first | exact za rfl rfl ) | (guard_target =~ gY (.fieldAddr _ _ _); exact yt rfl) | (guard_target =~ gY (.nilCheck _); first | exact zq rfl ) | (guard_target =~ gY (.extract _ _); exact ys rfl rfl) | (guard_target =~ gY (.typeAssert _ _ _ true); first | exact ye rfl rfl | exact yd rfl rfl (by first | rfl | assumption) ) | (guard_target =~ gY (.pick _ _ _); first | exact zu rfl rfl ) ) ?_
          | refine WU.skip rfl rfl rfl ?_)
      | (guard_target =~ gW (.seq _ _); refine W.seq ?_)
      | (guard_target =~ gW (.region _ _ false); refine W.reg ?_)
      | (guard_target =~ gW (.cond _ _ _); first | refine W.cond_t rfl ?_ | refine W.cond_f rfl ?_)
      | (guard_target =~ gW (.block _ _); refine W.block ?_)
      | (guard_target =~ gW .skip; refine W.skip ?_)
      ))
  refine W.regD [(0, .q), (1, .q), (2, .q), (3, .q), (4, .q), (5, .q), (6, .q), (7, .q), (8, .q), (9, .q), (10, .q), (11, .q), (12, .q), (13, .q), (14, .q), (15, .q), (16, .q), (17, .q), (18, .q), (19, .q), (20, .l), (21, .q), (22, .q)] (by kernel_rfl) (by kernel_rfl) rfl ?_
  intro w2 x2 _
  (repeat (first
      | refine WD.yld rfl rfl rfl rfl (by first | (guard_target =~ gY (.move _); exact ze rfl) | (guard_target =~ gY (.load _ _); first | exact za rfl rfl ) | (guard_target =~ gY (.fieldAddr _ _ _); exact yt rfl) | (guard_target =~ gY (.nilCheck _); first | exact zq rfl ) | (guard_target =~ gY (.binOp .eql _ _ _ _); first | exact yl rfl rfl ) ) ?_
      ))
  cases hn : n == n'
  · (repeat (first
      | (guard_target =~ WD _ _ _ _ [] _ _ _; first | refine WD.nilk ?_ )
      | refine WD.yld rfl rfl rfl rfl (by first | (guard_target =~ gY (.move _); exact ze rfl) | (guard_target =~ gY (.assign _); exact yf rfl) | (guard_target =~ gY (.pick _ _ _); first | exact zu rfl rfl ) ) ?_
      | refine WD.skip rfl rfl rfl rfl ?_))
    (repeat (first
        | (guard_target =~ gW .ret; refine W.ret ?_)
        | (guard_target =~ gT .ret; refine thn_ret ?_)
        | (guard_target =~ gI .ret; refine inb_ret ?_)))
    exact fin1 (.inl rfl) rfl rfl ⟨rfl, x2⟩
  · (repeat (first
      | refine WD.yld rfl rfl rfl rfl (by first | (guard_target =~ gY (.move _); exact ze rfl) | (guard_target =~ gY (.load _ _); first | exact za rfl rfl ) | (guard_target =~ gY (.fieldAddr _ _ _); exact yt rfl) | (guard_target =~ gY (.nilCheck _); first | exact zq rfl ) ) ?_
      ))
    refine WD.stp rfl rfl rfl rfl (stp_call rfl (ih _ x2)) ?_
    rintro _ w3 ⟨rfl, x3⟩
    refine ⟨by first | assumption | exact Ext.rfl' _ | infer_instance, ?_⟩
    (repeat (first
        | (guard_target =~ WD _ _ _ _ [] _ _ _; first | refine WD.nilk ?_ )
        | refine WD.yld rfl rfl rfl rfl (by first | (guard_target =~ gY (.assign _); exact yf rfl) | (guard_target =~ gY (.pick _ _ _); first | exact zv rfl rfl ) ) ?_
        ))
    (repeat (first
        | (guard_target =~ gW .ret; refine W.ret ?_)
        | (guard_target =~ gT .ret; refine thn_ret ?_)
        | (guard_target =~ gI .ret; refine inb_ret ?_)))
    exact fin1 (.inl rfl) rfl rfl ⟨rfl, x2.trans x3⟩

set_option maxHeartbeats 1000000 in
theorem id_yes_map {ig : Bool} {w : World} {bc bx b : Nat} {v v' u u' : Value} {r s : Bool} (hx : Has w bx (.cells #[u, v] 139)) (hy : Has w b (.cells #[u', v'] 139)) (hc : cmpr w bc ig) (hne : bx ≠ b)
    (ih' : ∀ w', Ext w w' → Idn ig w' bc u u' s) (ih : ∀ w', Ext w w' → Idn ig w' bc v v' r) :
    Idn ig w bc (.iface 64 (.pointer (some ⟨bx, 0, none⟩))) (.iface 64 (.pointer (some ⟨b, 0, none⟩))) (s && r) := by
  have hne : decide ((⟨bx, 0, none⟩ : Addr) = ⟨b, 0, none⟩) = false := decide_eq_false (fun h => hne (congrArg Addr.block h))
  refine W.enter (args := [.pointer (some ⟨bc, 0, none⟩), .iface 64 (.pointer (some ⟨bx, 0, none⟩)), .iface 64 (.pointer (some ⟨b, 0, none⟩)), .pointer none]) Tryz.func30 rfl Tryz.ntmps30 rfl rfl ?_
  (repeat (first
      | (guard_target =~ gU _; first
          | (guard_target =~ gU []; first | refine WU.nilk ?_ )
          | refine WU.yld rfl rfl rfl (by first | (guard_target =~ gY (.move _); exact ze rfl) | (guard_target =~ gY (.assign _); exact yf rfl) ) ?_
          )
      | (guard_target =~ gW (.seq _ _); refine W.seq ?_)
      | (guard_target =~ gW (.region _ _ false); refine W.reg ?_)
      ))
  refine WU.stp rfl rfl rfl (stp_call rfl (c_Unalias _ _ w rfl)) ?_
  rintro _ w2 ⟨rfl, rfl⟩
  (repeat (first
      | (guard_target =~ gU _; first
          | (guard_target =~ gU []; first | refine WU.nilk ?_ )
          | refine WU.yld rfl rfl rfl (by first | (guard_target =~ gY (.move _); exact ze rfl) | (guard_target =~ gY (.assign _); exact yf rfl) ) ?_
          )
      | (guard_target =~ gW (.seq _ _); refine W.seq ?_)
      | (guard_target =~ gW (.region _ _ false); refine W.reg ?_)
      ))
  refine WU.stp rfl rfl rfl (stp_call rfl (c_Unalias _ _ w rfl)) ?_
  rintro _ w2 ⟨rfl, rfl⟩
  (repeat (first
      | (guard_target =~ gU _; first
          | (guard_target =~ gU []; first | refine WU.nilk ?_ )
          | refine WU.yld rfl rfl rfl (by first | (guard_target =~ gY (.move _); exact ze rfl) | (guard_target =~ gY (.assign _); exact yf rfl) ) ?_
          )
      | (guard_target =~ gW (.seq _ _); refine W.seq ?_)
      | (guard_target =~ gW (.region _ _ false); refine W.reg ?_)
      ))
  refine WU.yld rfl rfl rfl (yld_eql_ifp rfl rfl) ?_
  rw [hne]
  (repeat (first
      | (guard_target =~ gU _; first
          | (guard_target =~ gU []; first | refine WU.nilk ?_ )
          | refine WU.yld rfl rfl rfl (by first | (guard_target =~ gY (.move _); exact ze rfl) | (guard_target =~ gY (.assign _); exact yf rfl) | (guard_target =~ gY (.load _ _); first | exact za rfl rfl ) | (guard_target =~ gY (.fieldAddr _ _ _); exact yt rfl) | (guard_target =~ gY (.nilCheck _); first | exact zq rfl ) | (guard_target =~ gY (.extract _ _); exact ys rfl rfl) | (guard_target =~ gY (.typeAssert _ _ _ true); first | exact ye rfl rfl | exact yd rfl rfl (by first | rfl | assumption) ) | (guard_target =~ gY (.pick _ _ _); first | exact zu rfl rfl ) ) ?_
          | refine WU.skip rfl rfl rfl ?_)
      | (guard_target =~ gW (.seq _ _); refine W.seq ?_)
      | (guard_target =~ gW (.region _ _ false); refine W.reg ?_)
      | (guard_target =~ gW (.cond _ _ _); first | refine W.cond_t rfl ?_ | refine W.cond_f rfl ?_)
      | (guard_target =~ gW (.block _ _); refine W.block ?_)
      | (guard_target =~ gW .skip; refine W.skip ?_)
      ))
  refine W.regD [(0, .q), (1, .q), (2, .q), (3, .q), (4, .q), (5, .q), (6, .q), (7, .q), (8, .q), (9, .q), (10, .l), (11, .q), (12, .q), (13, .q), (14, .q), (15, .q), (16, .q), (17, .q), (18, .q), (19, .q), (20, .q), (21, .q), (22, .l), (23, .q), (24, .q)] (by kernel_rfl) (by kernel_rfl) rfl ?_
  intro w2 x2 _
  (repeat (first
      | refine WD.yld rfl rfl rfl rfl (by first | (guard_target =~ gY (.move _); exact ze rfl) | (guard_target =~ gY (.load _ _); first | exact za rfl rfl ) | (guard_target =~ gY (.fieldAddr _ _ _); exact yt rfl) | (guard_target =~ gY (.nilCheck _); first | exact zq rfl ) ) ?_
      ))
  refine WD.stp rfl rfl rfl rfl (stp_call rfl (ih' _ x2)) ?_
  rintro _ w3 ⟨rfl, x3⟩
  refine ⟨by first | assumption | exact Ext.rfl' _ | infer_instance, ?_⟩
  (repeat (first
      | refine WD.yld rfl rfl rfl rfl (by first | (guard_target =~ gY (.move _); exact ze rfl) ) ?_
      ))
  cases s
  · (repeat (first
      | (guard_target =~ WD _ _ _ _ [] _ _ _; first | refine WD.nilk ?_ )
      | refine WD.yld rfl rfl rfl rfl (by first | (guard_target =~ gY (.move _); exact ze rfl) | (guard_target =~ gY (.assign _); exact yf rfl) | (guard_target =~ gY (.pick _ _ _); first | exact zu rfl rfl ) ) ?_
      | refine WD.skip rfl rfl rfl rfl ?_))
    (repeat (first
        | (guard_target =~ gW .ret; refine W.ret ?_)
        | (guard_target =~ gT .ret; refine thn_ret ?_)
        | (guard_target =~ gI .ret; refine inb_ret ?_)))
    exact fin1 (.inl rfl) rfl rfl ⟨rfl, x2.trans x3⟩
  · (repeat (first
      | refine WD.yld rfl rfl rfl rfl (by first | (guard_target =~ gY (.move _); exact ze rfl) | (guard_target =~ gY (.load _ _); first | exact za rfl rfl ) | (guard_target =~ gY (.fieldAddr _ _ _); exact yt rfl) | (guard_target =~ gY (.nilCheck _); first | exact zq rfl ) ) ?_
      ))
    refine WD.stp rfl rfl rfl rfl (stp_call rfl (ih _ (x2.trans x3))) ?_
    rintro _ w4 ⟨rfl, x4⟩
    refine ⟨by first | assumption | exact Ext.rfl' _ | infer_instance, ?_⟩
    (repeat (first
        | (guard_target =~ WD _ _ _ _ [] _ _ _; first | refine WD.nilk ?_ )
        | refine WD.yld rfl rfl rfl rfl (by first | (guard_target =~ gY (.assign _); exact yf rfl) | (guard_target =~ gY (.pick _ _ _); first | exact zv rfl rfl ) ) ?_
        ))
    (repeat (first
        | (guard_target =~ gW .ret; refine W.ret ?_)
        | (guard_target =~ gT .ret; refine thn_ret ?_)
        | (guard_target =~ gI .ret; refine inb_ret ?_)))
    exact fin1 (.inl rfl) rfl rfl ⟨rfl, x2.trans (x3.trans x4)⟩

end Go.Proofs.YtnmodbmaokilaaaGreatDoor

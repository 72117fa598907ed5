/- The plain family, part 3: go/types nodes of plain types; Typ and the constructors; plain. -/
import Derived.Test.YtnmodbmaokilaaaGreatDoorP2
namespace Go.Proofs.YtnmodbmaokilaaaGreatDoor
open Go Go.Kd
set_option maxRecDepth 100000

/-- A plain type, as go/types has it. -/
inductive GT where
  | basic (k : Int)
  | ptr (t : GT)
  | slice (t : GT)
  | array (n : Int) (t : GT)
  | chan (d : Int) (t : GT)
  | map (k t : GT)
  deriving DecidableEq

def infoOf (k : Int) : Int := if k = 1 then 1 else if k ≤ 6 then 2 else if k ≤ 12 then 6 else if k ≤ 14 then 8 else if k ≤ 16 then 16 else if k = 17 then 32 else 0

/-- the value v of gotypes.Type stands for a plain type -/
inductive Rep (w : World) : Value → GT → Prop
  | basic {b nm} (k : Int) : 1 ≤ k ∧ k ≤ 18 → Has w b (.cells #[.int .i64 k, .int .i64 (infoOf k), .string nm] 81) → Rep w (.iface 50 (.pointer (some ⟨b, 0, none⟩))) (.basic k)
  | ptr {b v t} : Has w b (.cells #[v] 107) → Rep w v t → Rep w (.iface 54 (.pointer (some ⟨b, 0, none⟩))) (.ptr t)
  | slice {b v t} : Has w b (.cells #[v] 87) → Rep w v t → Rep w (.iface 56 (.pointer (some ⟨b, 0, none⟩))) (.slice t)
  | array {b v t n} : 0 ≤ n → Has w b (.cells #[.int .i64 n, v] 84) → Rep w v t → Rep w (.iface 58 (.pointer (some ⟨b, 0, none⟩))) (.array n t)
  | chan {b v t d} : Has w b (.cells #[.int .i64 d, v] 142) → Rep w v t → Rep w (.iface 60 (.pointer (some ⟨b, 0, none⟩))) (.chan d t)
  | map {b v v' k t} : Has w b (.cells #[v', v] 139) → Rep w v' k → Rep w v t → Rep w (.iface 64 (.pointer (some ⟨b, 0, none⟩))) (.map k t)

theorem Rep.ext {w w' : World} (hx : Ext w w') {v : Value} {t : GT} (h : Rep w v t) : Rep w' v t := by
  induction h with
  | basic k h0 h1 => exact .basic k h0 (h1.ext' hx)
  | ptr h1 _ ih => exact .ptr (h1.ext' hx) ih
  | slice h1 _ ih => exact .slice (h1.ext' hx) ih
  | array h0 h1 _ ih => exact .array h0 (h1.ext' hx) ih
  | chan h1 _ ih => exact .chan (h1.ext' hx) ih
  | map h1 _ _ ih1 ih2 => exact .map (h1.ext' hx) ih1 ih2

def tagOf : GT → Nat
  | .basic _ => 50
  | .ptr _ => 54
  | .slice _ => 56
  | .array _ _ => 58
  | .chan _ _ => 60
  | .map _ _ => 64

theorem Rep.shape {w : World} {v : Value} {t : GT} (h : Rep w v t) : ∃ b, v = .iface (tagOf t) (.pointer (some ⟨b, 0, none⟩)) ∧ Pl w b := by
  cases h with
  | basic k h0 h1 => exact ⟨_, rfl, ⟨_, _, h1.at_⟩⟩
  | ptr h1 _ => exact ⟨_, rfl, ⟨_, _, h1.at_⟩⟩
  | slice h1 _ => exact ⟨_, rfl, ⟨_, _, h1.at_⟩⟩
  | array h0 h1 _ => exact ⟨_, rfl, ⟨_, _, h1.at_⟩⟩
  | chan h1 _ => exact ⟨_, rfl, ⟨_, _, h1.at_⟩⟩
  | map h1 _ _ => exact ⟨_, rfl, ⟨_, _, h1.at_⟩⟩

theorem Has.det {w : World} {b : Nat} {o o' : Obj} (h : Has w b o) (h' : Has w b o') : o = o' := Option.some.inj (h.at_.symm.trans h'.at_)

/-- a value stands for one type -/
theorem Rep.det {w : World} {v : Value} {t t' : GT} (h : Rep w v t) (h' : Rep w v t') : t = t' := by
  induction h generalizing t' with
  | basic k h0 h1 =>
    cases h' with
    | basic k' _ h1' => have := Has.det h1 h1'; simp at this; rw [this.1]
  | ptr h1 _ ih =>
    cases h' with
    | ptr h1' hv => have := Has.det h1 h1'; simp at this; subst this; rw [ih hv]
  | slice h1 _ ih =>
    cases h' with
    | slice h1' hv => have := Has.det h1 h1'; simp at this; subst this; rw [ih hv]
  | array h0 h1 _ ih =>
    cases h' with
    | array h0' h1' hv => have := Has.det h1 h1'; simp at this; obtain ⟨rfl, rfl⟩ := this; rw [ih hv]
  | chan h1 _ ih =>
    cases h' with
    | chan h1' hv => have := Has.det h1 h1'; simp at this; obtain ⟨rfl, rfl⟩ := this; rw [ih hv]
  | map h1 _ _ ih1 ih2 =>
    cases h' with
    | map h1' hk hv => have := Has.det h1 h1'; simp at this; obtain ⟨rfl, rfl⟩ := this; rw [ih1 hk, ih2 hv]

theorem c_plainBasic (n : Int) (w : World) (hn : 0 ≤ n ∧ n < 20) :
    Calls Tryz.prog 32 #[.int .i64 n] w (Ret fun r w' => r = .int .i64 (orig n + 1) ∧ w = w') := by
  by_cases h1 : n = 18
  · subst h1
    refine W.enter (args := [.int .i64 18]) Tryz.func32 rfl Tryz.ntmps32 rfl rfl ?_
    (repeat (first
        | (guard_target =~ gU _; first
            | (guard_target =~ gU []; first | refine WU.nilk ?_ )
            | refine WU.yld rfl rfl rfl (by first | (guard_target =~ gY (.move _); exact ze rfl) | (guard_target =~ gY (.assign _); exact yf rfl) | (guard_target =~ gY (.binOp .eql _ _ _ _); first | exact yl rfl rfl ) ) ?_
            )
        | (guard_target =~ gW (.seq _ _); refine W.seq ?_)
        | (guard_target =~ gW (.region _ _ false); refine W.reg ?_)
        | (guard_target =~ gW (.cond _ _ _); first | refine W.cond_t rfl ?_ )
        | (guard_target =~ gW (.block _ _); refine W.block ?_)
        | (guard_target =~ gW .ret; refine W.ret ?_)
        | (guard_target =~ gT .ret; refine thn_ret ?_)
        | (guard_target =~ gI .ret; refine inb_ret ?_)))
    exact fin1 (.inl rfl) rfl rfl ⟨rfl, rfl⟩
  by_cases h2 : n = 19
  · subst h2
    refine W.enter (args := [.int .i64 19]) Tryz.func32 rfl Tryz.ntmps32 rfl rfl ?_
    (repeat (first
        | (guard_target =~ gU _; first
            | (guard_target =~ gU []; first | refine WU.nilk ?_ )
            | refine WU.yld rfl rfl rfl (by first | (guard_target =~ gY (.move _); exact ze rfl) | (guard_target =~ gY (.assign _); exact yf rfl) | (guard_target =~ gY (.binOp .eql _ _ _ _); first | exact yl rfl rfl ) ) ?_
            )
        | (guard_target =~ gW (.seq _ _); refine W.seq ?_)
        | (guard_target =~ gW (.region _ _ false); refine W.reg ?_)
        | (guard_target =~ gW (.cond _ _ _); first | refine W.cond_t rfl ?_ | refine W.cond_f rfl ?_)
        | (guard_target =~ gW (.block _ _); refine W.block ?_)
        | (guard_target =~ gW .ret; refine W.ret ?_)
        | (guard_target =~ gT .ret; refine thn_ret ?_)
        | (guard_target =~ gI .ret; refine inb_ret ?_)))
    exact fin1 (.inl rfl) rfl rfl ⟨rfl, rfl⟩
  refine W.enter (args := [.int .i64 n]) Tryz.func32 rfl Tryz.ntmps32 rfl rfl ?_
  (repeat (first
      | (guard_target =~ gU _; first
          | (guard_target =~ gU []; first | refine WU.nilk ?_ )
          | refine WU.yld rfl rfl rfl (by first | (guard_target =~ gY (.move _); exact ze rfl) | (guard_target =~ gY (.assign _); exact yf rfl) | (guard_target =~ gY (.binOp .eql _ _ _ _); first | exact yl rfl rfl ) ) ?_
          )
      | (guard_target =~ gW (.seq _ _); refine W.seq ?_)
      | (guard_target =~ gW (.region _ _ false); refine W.reg ?_)
      | (guard_target =~ gW (.block _ _); refine W.block ?_)
      ))
  rw [show (n == 18) = false by simpa using h1]
  (repeat (first
      | (guard_target =~ gU _; first
          | (guard_target =~ gU []; first | refine WU.nilk ?_ )
          | refine WU.yld rfl rfl rfl (by first | (guard_target =~ gY (.assign _); exact yf rfl) | (guard_target =~ gY (.binOp .eql _ _ _ _); first | exact yl rfl rfl ) ) ?_
          )
      | (guard_target =~ gW (.seq _ _); refine W.seq ?_)
      | (guard_target =~ gW (.region _ _ false); refine W.reg ?_)
      | (guard_target =~ gW (.cond _ _ _); first | refine W.cond_f rfl ?_)
      ))
  rw [show (n == 19) = false by simpa using h2]
  (repeat (first
      | (guard_target =~ gU _; first
          | (guard_target =~ gU []; first | refine WU.nilk ?_ )
          | refine WU.yld rfl rfl rfl (by first | (guard_target =~ gY (.move _); exact ze rfl) | (guard_target =~ gY (.assign _); exact yf rfl) | (guard_target =~ gY (.binOp .add _ _ _ _); exact ya rfl rfl (by omega)) | (guard_target =~ gY (.binOp .sub _ _ _ _); exact zw rfl rfl (by omega)) ) ?_
          )
      | (guard_target =~ gW (.seq _ _); refine W.seq ?_)
      | (guard_target =~ gW (.region _ _ false); refine W.reg ?_)
      | (guard_target =~ gW (.cond _ _ _); first | refine W.cond_f rfl ?_)
      | (guard_target =~ gW .skip; refine W.skip ?_)
      | (guard_target =~ gW .ret; refine W.ret ?_)
      ))
  exact fin1 (.inl rfl) rfl rfl ⟨by unfold orig; rw [if_neg h1, if_neg h2]; congr 1; omega, rfl⟩

theorem c_direction (n : Int) (w : World) (hn : 0 ≤ n ∧ n < 3) :
    Calls Tryz.prog 37 #[.int .i64 n] w (Ret fun r w' => r = .int .i64 n ∧ w = w') := by
  by_cases h1 : n = 1
  · subst h1
    refine W.enter (args := [.int .i64 1]) Tryz.func37 rfl Tryz.ntmps37 rfl rfl ?_
    (repeat (first
        | (guard_target =~ gU _; first
            | (guard_target =~ gU []; first | refine WU.nilk ?_ )
            | refine WU.yld rfl rfl rfl (by first | (guard_target =~ gY (.move _); exact ze rfl) | (guard_target =~ gY (.assign _); exact yf rfl) | (guard_target =~ gY (.binOp .eql _ _ _ _); first | exact yl rfl rfl ) ) ?_
            )
        | (guard_target =~ gW (.seq _ _); refine W.seq ?_)
        | (guard_target =~ gW (.region _ _ false); refine W.reg ?_)
        | (guard_target =~ gW (.cond _ _ _); first | refine W.cond_t rfl ?_ )
        | (guard_target =~ gW (.block _ _); refine W.block ?_)
        | (guard_target =~ gW .ret; refine W.ret ?_)
        | (guard_target =~ gT .ret; refine thn_ret ?_)
        | (guard_target =~ gI .ret; refine inb_ret ?_)))
    exact fin1 (.inl rfl) rfl rfl ⟨rfl, rfl⟩
  by_cases h2 : n = 2
  · subst h2
    refine W.enter (args := [.int .i64 2]) Tryz.func37 rfl Tryz.ntmps37 rfl rfl ?_
    (repeat (first
        | (guard_target =~ gU _; first
            | (guard_target =~ gU []; first | refine WU.nilk ?_ )
            | refine WU.yld rfl rfl rfl (by first | (guard_target =~ gY (.move _); exact ze rfl) | (guard_target =~ gY (.assign _); exact yf rfl) | (guard_target =~ gY (.binOp .eql _ _ _ _); first | exact yl rfl rfl ) ) ?_
            )
        | (guard_target =~ gW (.seq _ _); refine W.seq ?_)
        | (guard_target =~ gW (.region _ _ false); refine W.reg ?_)
        | (guard_target =~ gW (.cond _ _ _); first | refine W.cond_t rfl ?_ | refine W.cond_f rfl ?_)
        | (guard_target =~ gW (.block _ _); refine W.block ?_)
        | (guard_target =~ gW .ret; refine W.ret ?_)
        | (guard_target =~ gT .ret; refine thn_ret ?_)
        | (guard_target =~ gI .ret; refine inb_ret ?_)))
    exact fin1 (.inl rfl) rfl rfl ⟨rfl, rfl⟩
  obtain rfl : n = 0 := by omega
  refine W.enter (args := [.int .i64 0]) Tryz.func37 rfl Tryz.ntmps37 rfl rfl ?_
  (repeat (first
      | (guard_target =~ gU _; first
          | (guard_target =~ gU []; first | refine WU.nilk ?_ )
          | refine WU.yld rfl rfl rfl (by first | (guard_target =~ gY (.move _); exact ze rfl) | (guard_target =~ gY (.assign _); exact yf rfl) | (guard_target =~ gY (.binOp .eql _ _ _ _); first | exact yl rfl rfl ) ) ?_
          )
      | (guard_target =~ gW (.seq _ _); refine W.seq ?_)
      | (guard_target =~ gW (.region _ _ false); refine W.reg ?_)
      | (guard_target =~ gW (.cond _ _ _); first | refine W.cond_f rfl ?_)
      | (guard_target =~ gW (.block _ _); refine W.block ?_)
      | (guard_target =~ gW .skip; refine W.skip ?_)
      | (guard_target =~ gW .ret; refine W.ret ?_)
      ))
  exact fin1 (.inl rfl) rfl rfl ⟨rfl, rfl⟩

theorem c_NewPointer (T : Nat) (v : Value) (w : World) :
    Calls Tryz.prog 33 #[.iface T v] w (Ret fun r w' => ∃ b, r = .pointer (some ⟨b, 0, none⟩) ∧ Has w' b (.cells #[.iface T v] 107) ∧ Ext w w') := by
  refine W.enter (args := [.iface T v]) Tryz.func33 rfl Tryz.ntmps33 rfl rfl ?_
  (repeat (first
      | (guard_target =~ gU _; first
          | (guard_target =~ gU []; first | refine WU.nilk ?_ )
          | refine WU.yld rfl rfl rfl (by first | (guard_target =~ gY (.move _); exact ze rfl) | (guard_target =~ gY (.assign _); exact yf rfl) | (guard_target =~ gY (.build _ _); exact yg rfl rfl) ) ?_
          )
      | (guard_target =~ gW (.seq _ _); refine W.seq ?_)
      | (guard_target =~ gW (.region _ _ false); refine W.reg ?_)
      ))
  refine WU.stp rfl rfl rfl (by first | exact stp_box rfl rfl | exact stp_box1 rfl rfl) ?_
  rintro _ w1 ⟨b1, rfl, n1⟩
  (repeat (first
      | (guard_target =~ gU _; first
          | (guard_target =~ gU []; first | refine WU.nilk ?_ )
          | refine WU.yld rfl rfl rfl (by first | (guard_target =~ gY (.assign _); exact yf rfl) ) ?_
          )
      | (guard_target =~ gW .ret; refine W.ret ?_)
      ))
  exact fin1 (.inl rfl) rfl rfl ⟨b1, rfl, n1.has, n1.ext⟩

theorem c_NewSlice (T : Nat) (v : Value) (w : World) :
    Calls Tryz.prog 34 #[.iface T v] w (Ret fun r w' => ∃ b, r = .pointer (some ⟨b, 0, none⟩) ∧ Has w' b (.cells #[.iface T v] 87) ∧ Ext w w') := by
  refine W.enter (args := [.iface T v]) Tryz.func34 rfl Tryz.ntmps34 rfl rfl ?_
  (repeat (first
      | (guard_target =~ gU _; first
          | (guard_target =~ gU []; first | refine WU.nilk ?_ )
          | refine WU.yld rfl rfl rfl (by first | (guard_target =~ gY (.move _); exact ze rfl) | (guard_target =~ gY (.assign _); exact yf rfl) | (guard_target =~ gY (.build _ _); exact yg rfl rfl) ) ?_
          )
      | (guard_target =~ gW (.seq _ _); refine W.seq ?_)
      | (guard_target =~ gW (.region _ _ false); refine W.reg ?_)
      ))
  refine WU.stp rfl rfl rfl (by first | exact stp_box rfl rfl | exact stp_box1 rfl rfl) ?_
  rintro _ w1 ⟨b1, rfl, n1⟩
  (repeat (first
      | (guard_target =~ gU _; first
          | (guard_target =~ gU []; first | refine WU.nilk ?_ )
          | refine WU.yld rfl rfl rfl (by first | (guard_target =~ gY (.assign _); exact yf rfl) ) ?_
          )
      | (guard_target =~ gW .ret; refine W.ret ?_)
      ))
  exact fin1 (.inl rfl) rfl rfl ⟨b1, rfl, n1.has, n1.ext⟩

theorem c_NewArray (T : Nat) (v : Value) (n : Int) (w : World) :
    Calls Tryz.prog 35 #[.iface T v, .int .i64 n] w (Ret fun r w' => ∃ b, r = .pointer (some ⟨b, 0, none⟩) ∧ Has w' b (.cells #[.int .i64 n, .iface T v] 84) ∧ Ext w w') := by
  refine W.enter (args := [.iface T v, .int .i64 n]) Tryz.func35 rfl Tryz.ntmps35 rfl rfl ?_
  (repeat (first
      | (guard_target =~ gU _; first
          | (guard_target =~ gU []; first | refine WU.nilk ?_ )
          | refine WU.yld rfl rfl rfl (by first | (guard_target =~ gY (.move _); exact ze rfl) | (guard_target =~ gY (.assign _); exact yf rfl) | (guard_target =~ gY (.build _ _); exact yg rfl rfl) ) ?_
          )
      | (guard_target =~ gW (.seq _ _); refine W.seq ?_)
      | (guard_target =~ gW (.region _ _ false); refine W.reg ?_)
      ))
  refine WU.stp rfl rfl rfl (by first | exact stp_box rfl rfl | exact stp_box1 rfl rfl) ?_
  rintro _ w1 ⟨b1, rfl, n1⟩
  (repeat (first
      | (guard_target =~ gU _; first
          | (guard_target =~ gU []; first | refine WU.nilk ?_ )
          | refine WU.yld rfl rfl rfl (by first | (guard_target =~ gY (.assign _); exact yf rfl) ) ?_
          )
      | (guard_target =~ gW .ret; refine W.ret ?_)
      ))
  exact fin1 (.inl rfl) rfl rfl ⟨b1, rfl, n1.has, n1.ext⟩

theorem c_NewChan (T : Nat) (v : Value) (n : Int) (w : World) :
    Calls Tryz.prog 36 #[.int .i64 n, .iface T v] w (Ret fun r w' => ∃ b, r = .pointer (some ⟨b, 0, none⟩) ∧ Has w' b (.cells #[.int .i64 n, .iface T v] 142) ∧ Ext w w') := by
  refine W.enter (args := [.int .i64 n, .iface T v]) Tryz.func36 rfl Tryz.ntmps36 rfl rfl ?_
  (repeat (first
      | (guard_target =~ gU _; first
          | (guard_target =~ gU []; first | refine WU.nilk ?_ )
          | refine WU.yld rfl rfl rfl (by first | (guard_target =~ gY (.move _); exact ze rfl) | (guard_target =~ gY (.assign _); exact yf rfl) | (guard_target =~ gY (.build _ _); exact yg rfl rfl) ) ?_
          )
      | (guard_target =~ gW (.seq _ _); refine W.seq ?_)
      | (guard_target =~ gW (.region _ _ false); refine W.reg ?_)
      ))
  refine WU.stp rfl rfl rfl (by first | exact stp_box rfl rfl | exact stp_box1 rfl rfl) ?_
  rintro _ w1 ⟨b1, rfl, n1⟩
  (repeat (first
      | (guard_target =~ gU _; first
          | (guard_target =~ gU []; first | refine WU.nilk ?_ )
          | refine WU.yld rfl rfl rfl (by first | (guard_target =~ gY (.assign _); exact yf rfl) ) ?_
          )
      | (guard_target =~ gW .ret; refine W.ret ?_)
      ))
  exact fin1 (.inl rfl) rfl rfl ⟨b1, rfl, n1.has, n1.ext⟩

theorem c_NewMap (T : Nat) (v : Value) (T' : Nat) (v' : Value) (w : World) :
    Calls Tryz.prog 38 #[.iface T v, .iface T' v'] w (Ret fun r w' => ∃ b, r = .pointer (some ⟨b, 0, none⟩) ∧ Has w' b (.cells #[.iface T v, .iface T' v'] 139) ∧ Ext w w') := by
  refine W.enter (args := [.iface T v, .iface T' v']) Tryz.func38 rfl Tryz.ntmps38 rfl rfl ?_
  (repeat (first
      | (guard_target =~ gU _; first
          | (guard_target =~ gU []; first | refine WU.nilk ?_ )
          | refine WU.yld rfl rfl rfl (by first | (guard_target =~ gY (.move _); exact ze rfl) | (guard_target =~ gY (.assign _); exact yf rfl) | (guard_target =~ gY (.build _ _); exact yg rfl rfl) ) ?_
          )
      | (guard_target =~ gW (.seq _ _); refine W.seq ?_)
      | (guard_target =~ gW (.region _ _ false); refine W.reg ?_)
      ))
  refine WU.stp rfl rfl rfl (by first | exact stp_box rfl rfl | exact stp_box1 rfl rfl) ?_
  rintro _ w1 ⟨b1, rfl, n1⟩
  (repeat (first
      | (guard_target =~ gU _; first
          | (guard_target =~ gU []; first | refine WU.nilk ?_ )
          | refine WU.yld rfl rfl rfl (by first | (guard_target =~ gY (.assign _); exact yf rfl) ) ?_
          )
      | (guard_target =~ gW .ret; refine W.ret ?_)
      ))
  exact fin1 (.inl rfl) rfl rfl ⟨b1, rfl, n1.has, n1.ext⟩

set_option maxHeartbeats 1000000 in
theorem c_Typ (k : Int) (w : World) (hk : 1 ≤ k ∧ k ≤ 18) :
    Calls Tryz.prog 31 #[.int .i64 k] w
      (Ret fun r w' => ∃ b nm, r = .pointer (some ⟨b, 0, none⟩) ∧ Has w' b (.cells #[.int .i64 k, .int .i64 (infoOf k), .string nm] 81) ∧ Ext w w') := by
  refine W.enter (args := [.int .i64 k]) Tryz.func31 rfl Tryz.ntmps31 rfl rfl ?_
  refine W.seq (W.reg (WU.yld rfl rfl rfl (yld_assign rfl) (WU.nilk ?_)))
  refine W.seq (W.reg ?_)
  refine WU.yld rfl rfl rfl (yld_build rfl rfl) ?_
  refine WU.stp rfl rfl rfl (stp_box rfl rfl) ?_
  rintro _ w1 ⟨b0, rfl, n0⟩
  refine WU.yld rfl rfl rfl (yld_build rfl rfl) ?_
  refine WU.stp rfl rfl rfl (stp_box rfl rfl) ?_
  rintro _ w2 ⟨b1, rfl, n1⟩
  refine WU.yld rfl rfl rfl (yld_build rfl rfl) ?_
  refine WU.stp rfl rfl rfl (stp_box rfl rfl) ?_
  rintro _ w3 ⟨b2, rfl, n2⟩
  refine WU.yld rfl rfl rfl (yld_build rfl rfl) ?_
  refine WU.stp rfl rfl rfl (stp_box rfl rfl) ?_
  rintro _ w4 ⟨b3, rfl, n3⟩
  refine WU.yld rfl rfl rfl (yld_build rfl rfl) ?_
  refine WU.stp rfl rfl rfl (stp_box rfl rfl) ?_
  rintro _ w5 ⟨b4, rfl, n4⟩
  refine WU.yld rfl rfl rfl (yld_build rfl rfl) ?_
  refine WU.stp rfl rfl rfl (stp_box rfl rfl) ?_
  rintro _ w6 ⟨b5, rfl, n5⟩
  refine WU.yld rfl rfl rfl (yld_build rfl rfl) ?_
  refine WU.stp rfl rfl rfl (stp_box rfl rfl) ?_
  rintro _ w7 ⟨b6, rfl, n6⟩
  refine WU.yld rfl rfl rfl (yld_build rfl rfl) ?_
  refine WU.stp rfl rfl rfl (stp_box rfl rfl) ?_
  rintro _ w8 ⟨b7, rfl, n7⟩
  refine WU.yld rfl rfl rfl (yld_build rfl rfl) ?_
  refine WU.stp rfl rfl rfl (stp_box rfl rfl) ?_
  rintro _ w9 ⟨b8, rfl, n8⟩
  refine WU.yld rfl rfl rfl (yld_build rfl rfl) ?_
  refine WU.stp rfl rfl rfl (stp_box rfl rfl) ?_
  rintro _ w10 ⟨b9, rfl, n9⟩
  refine WU.yld rfl rfl rfl (yld_build rfl rfl) ?_
  refine WU.stp rfl rfl rfl (stp_box rfl rfl) ?_
  rintro _ w11 ⟨b10, rfl, n10⟩
  refine WU.yld rfl rfl rfl (yld_build rfl rfl) ?_
  refine WU.stp rfl rfl rfl (stp_box rfl rfl) ?_
  rintro _ w12 ⟨b11, rfl, n11⟩
  refine WU.yld rfl rfl rfl (yld_build rfl rfl) ?_
  refine WU.stp rfl rfl rfl (stp_box rfl rfl) ?_
  rintro _ w13 ⟨b12, rfl, n12⟩
  refine WU.yld rfl rfl rfl (yld_build rfl rfl) ?_
  refine WU.stp rfl rfl rfl (stp_box rfl rfl) ?_
  rintro _ w14 ⟨b13, rfl, n13⟩
  refine WU.yld rfl rfl rfl (yld_build rfl rfl) ?_
  refine WU.stp rfl rfl rfl (stp_box rfl rfl) ?_
  rintro _ w15 ⟨b14, rfl, n14⟩
  refine WU.yld rfl rfl rfl (yld_build rfl rfl) ?_
  refine WU.stp rfl rfl rfl (stp_box rfl rfl) ?_
  rintro _ w16 ⟨b15, rfl, n15⟩
  refine WU.yld rfl rfl rfl (yld_build rfl rfl) ?_
  refine WU.stp rfl rfl rfl (stp_box rfl rfl) ?_
  rintro _ w17 ⟨b16, rfl, n16⟩
  refine WU.yld rfl rfl rfl (yld_build rfl rfl) ?_
  refine WU.stp rfl rfl rfl (stp_box rfl rfl) ?_
  rintro _ w18 ⟨b17, rfl, n17⟩
  refine WU.yld rfl rfl rfl (yld_build rfl rfl) ?_
  refine WU.stp rfl rfl rfl (stp_box rfl rfl) ?_
  rintro _ w19 ⟨b18, rfl, n18⟩
  refine WU.yld rfl rfl rfl (yld_build rfl rfl) ?_
  refine WU.stp rfl rfl rfl (stp_box rfl rfl) ?_
  rintro _ w20 ⟨b19, rfl, n19⟩
  refine WU.yld rfl rfl rfl (yld_build rfl rfl) ?_
  refine WU.stp rfl rfl rfl (stp_box rfl rfl) ?_
  rintro _ w21 ⟨b20, rfl, n20⟩
  refine WU.yld rfl rfl rfl (yld_build rfl rfl) ?_
  refine WU.stp rfl rfl rfl (stp_box rfl rfl) ?_
  rintro _ w22 ⟨b21, rfl, n21⟩
  refine WU.yld rfl rfl rfl (yld_build rfl rfl) ?_
  refine WU.stp rfl rfl rfl (stp_box rfl rfl) ?_
  rintro _ w23 ⟨b22, rfl, n22⟩
  refine WU.yld rfl rfl rfl (yld_build rfl rfl) ?_
  refine WU.stp rfl rfl rfl (stp_box rfl rfl) ?_
  rintro _ w24 ⟨b23, rfl, n23⟩
  refine WU.yld rfl rfl rfl (yld_build rfl rfl) ?_
  refine WU.stp rfl rfl rfl (stp_box rfl rfl) ?_
  rintro _ w25 ⟨b24, rfl, n24⟩
  refine WU.yld rfl rfl rfl (yld_build rfl rfl) ?_
  refine WU.stp rfl rfl rfl (stp_box rfl rfl) ?_
  rintro _ w26 ⟨b25, rfl, n25⟩
  refine WU.stp rfl rfl rfl (stp_buildSlice rfl rfl rfl rfl rfl) ?_
  rintro _ w27 ⟨b26, rfl, n26⟩
  have y0 : Ext w w := Ext.rfl' w
  have y1 : Ext w w1 := y0.trans n0.ext; have y2 : Ext w w2 := y1.trans n1.ext; have y3 : Ext w w3 := y2.trans n2.ext; have y4 : Ext w w4 := y3.trans n3.ext; have y5 : Ext w w5 := y4.trans n4.ext; have y6 : Ext w w6 := y5.trans n5.ext; have y7 : Ext w w7 := y6.trans n6.ext; have y8 : Ext w w8 := y7.trans n7.ext; have y9 : Ext w w9 := y8.trans n8.ext; have y10 : Ext w w10 := y9.trans n9.ext; have y11 : Ext w w11 := y10.trans n10.ext; have y12 : Ext w w12 := y11.trans n11.ext; have y13 : Ext w w13 := y12.trans n12.ext; have y14 : Ext w w14 := y13.trans n13.ext; have y15 : Ext w w15 := y14.trans n14.ext; have y16 : Ext w w16 := y15.trans n15.ext; have y17 : Ext w w17 := y16.trans n16.ext; have y18 : Ext w w18 := y17.trans n17.ext; have y19 : Ext w w19 := y18.trans n18.ext; have y20 : Ext w w20 := y19.trans n19.ext; have y21 : Ext w w21 := y20.trans n20.ext; have y22 : Ext w w22 := y21.trans n21.ext; have y23 : Ext w w23 := y22.trans n22.ext; have y24 : Ext w w24 := y23.trans n23.ext; have y25 : Ext w w25 := y24.trans n24.ext; have y26 : Ext w w26 := y25.trans n25.ext
  have hy : Ext w w27 := y26.trans n26.ext
  have z25 : Ext w26 w26 := Ext.rfl' w26; have z24 : Ext w25 w26 := n25.ext.trans z25; have z23 : Ext w24 w26 := n24.ext.trans z24; have z22 : Ext w23 w26 := n23.ext.trans z23; have z21 : Ext w22 w26 := n22.ext.trans z22; have z20 : Ext w21 w26 := n21.ext.trans z21; have z19 : Ext w20 w26 := n20.ext.trans z20; have z18 : Ext w19 w26 := n19.ext.trans z19; have z17 : Ext w18 w26 := n18.ext.trans z18; have z16 : Ext w17 w26 := n17.ext.trans z17; have z15 : Ext w16 w26 := n16.ext.trans z16; have z14 : Ext w15 w26 := n15.ext.trans z15; have z13 : Ext w14 w26 := n14.ext.trans z14; have z12 : Ext w13 w26 := n13.ext.trans z13; have z11 : Ext w12 w26 := n12.ext.trans z12; have z10 : Ext w11 w26 := n11.ext.trans z11; have z9 : Ext w10 w26 := n10.ext.trans z10; have z8 : Ext w9 w26 := n9.ext.trans z9; have z7 : Ext w8 w26 := n8.ext.trans z8; have z6 : Ext w7 w26 := n7.ext.trans z7; have z5 : Ext w6 w26 := n6.ext.trans z6; have z4 : Ext w5 w26 := n5.ext.trans z5; have z3 : Ext w4 w26 := n4.ext.trans z4; have z2 : Ext w3 w26 := n3.ext.trans z3; have z1 : Ext w2 w26 := n2.ext.trans z2
  have hx : Ext w26 w27 := n26.ext
  have hrow := n26.has
  clear y0 y1 y2 y3 y4 y5 y6 y7 y8 y9 y10 y11 y12 y13 y14 y15 y16 y17 y18 y19 y20 y21 y22 y23 y24 y25 y26 n26
  have hc : k = 1 ∨ k = 2 ∨ k = 3 ∨ k = 4 ∨ k = 5 ∨ k = 6 ∨ k = 7 ∨ k = 8 ∨ k = 9 ∨ k = 10 ∨ k = 11 ∨ k = 12 ∨ k = 13 ∨ k = 14 ∨ k = 15 ∨ k = 16 ∨ k = 17 ∨ k = 18 := by omega
  rcases hc with rfl | rfl | rfl | rfl | rfl | rfl | rfl | rfl | rfl | rfl | rfl | rfl | rfl | rfl | rfl | rfl | rfl | rfl
  all_goals
    (repeat (first
        | (guard_target =~ gU _; first
            | (guard_target =~ gU []; first | refine WU.nilk ?_ )
            | refine WU.yld rfl rfl rfl (by first | (guard_target =~ gY (.move _); exact ze rfl) | (guard_target =~ gY (.assign _); exact yf rfl) | (guard_target =~ gY (.load _ _); first | exact za rfl rfl ) | (guard_target =~ gY (.indexAddr _ _ _); exact yw rfl rfl (by omega) (by omega))) ?_
            )
        | (guard_target =~ gW (.seq _ _); refine W.seq ?_)
        | (guard_target =~ gW (.region _ _ false); refine W.reg ?_)
        | (guard_target =~ gW .ret; refine W.ret ?_)
        ))
    refine fin1 (.inl rfl) rfl rfl ?_
  · exact ⟨b1, _, rfl, n1.has.ext' (z1.trans hx), hy⟩
  · exact ⟨b2, _, rfl, n2.has.ext' (z2.trans hx), hy⟩
  · exact ⟨b3, _, rfl, n3.has.ext' (z3.trans hx), hy⟩
  · exact ⟨b4, _, rfl, n4.has.ext' (z4.trans hx), hy⟩
  · exact ⟨b5, _, rfl, n5.has.ext' (z5.trans hx), hy⟩
  · exact ⟨b6, _, rfl, n6.has.ext' (z6.trans hx), hy⟩
  · exact ⟨b7, _, rfl, n7.has.ext' (z7.trans hx), hy⟩
  · exact ⟨b8, _, rfl, n8.has.ext' (z8.trans hx), hy⟩
  · exact ⟨b9, _, rfl, n9.has.ext' (z9.trans hx), hy⟩
  · exact ⟨b10, _, rfl, n10.has.ext' (z10.trans hx), hy⟩
  · exact ⟨b11, _, rfl, n11.has.ext' (z11.trans hx), hy⟩
  · exact ⟨b12, _, rfl, n12.has.ext' (z12.trans hx), hy⟩
  · exact ⟨b13, _, rfl, n13.has.ext' (z13.trans hx), hy⟩
  · exact ⟨b14, _, rfl, n14.has.ext' (z14.trans hx), hy⟩
  · exact ⟨b15, _, rfl, n15.has.ext' (z15.trans hx), hy⟩
  · exact ⟨b16, _, rfl, n16.has.ext' (z16.trans hx), hy⟩
  · exact ⟨b17, _, rfl, n17.has.ext' (z17.trans hx), hy⟩
  · exact ⟨b18, _, rfl, n18.has.ext' (z18.trans hx), hy⟩
end Go.Proofs.YtnmodbmaokilaaaGreatDoor

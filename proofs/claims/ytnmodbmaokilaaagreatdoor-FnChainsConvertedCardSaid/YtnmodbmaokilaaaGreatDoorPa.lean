/- The plain family, part 10: AssignableTo, over plain types. -/
import Derived.Test.YtnmodbmaokilaaaGreatDoorP7
import Derived.Test.YtnmodbmaokilaaaGreatDoorPu
namespace Go.Proofs.YtnmodbmaokilaaaGreatDoor
open Go Go.Kd
set_option maxRecDepth 100000

theorem fin2 {P : Program} {fn : Func} {R : Value → World → Prop} {x : Exit} {e : Env} {w : World} {t t' : Nat} {v v' : Value} (hx : x = .ret ∨ x = .normal) (hr : fn.results = #[.tmp t, .tmp t']) (hv : lk e t = some v) (hv' : lk e t' = some v') (h : R (.tuple #[v, v']) w) :
    fin P fn (Ret R) x [] e w := by
  have : RV P e w fn.results.toList [v, v'] := by rw [hr]; exact .tmp hv (.tmp hv' .nil)
  rcases hx with rfl | rfl <;> exact ⟨rfl, [v, v'], this, _, rfl, h⟩

/-- what a plain type is not -/
structure NoT (T : Nat) : Prop where
  al : Nat.beq T 164 = false
  itf : Nat.beq T 127 = false
  tp : Nat.beq T 146 = false
  nam : Nat.beq T 143 = false
theorem noT (x : GT) : NoT (tagOf x) := by cases x <;> exact ⟨rfl, rfl, rfl, rfl⟩

theorem stp_und {e : Env} {w : World} {d : Option Tmp} {ty : TypeId} {pos : String} {aft : Array Edge} {g : Option (Nat × Bool)} {recv : Operand} {tys : Array TypeId} {x : GT} {v : Value} (hr : Rep w v x) (hv : ev e recv = some v) :
    Stp Tryz.prog e ⟨d, .call ⟨.invoke recv "Underlying", #[], tys⟩, ty, pos, aft, g⟩ w (fun r w' => r = v ∧ w = w') := by
  obtain ⟨b, rfl, _⟩ := hr.shape
  cases x with
  | basic k => exact stp_invoke (T := 50) (args := []) hv rfl (c_Und_basic b w)
  | ptr t => exact stp_invoke (T := 54) (args := []) hv rfl (c_Und_ptr b w)
  | slice t => exact stp_invoke (T := 56) (args := []) hv rfl (c_Und_slice b w)
  | array n t => exact stp_invoke (T := 58) (args := []) hv rfl (c_Und_array b w)
  | chan d t => exact stp_invoke (T := 60) (args := []) hv rfl (c_Und_chan b w)
  | map k t => exact stp_invoke (T := 64) (args := []) hv rfl (c_Und_map b w)

abbrev opr (w : World) (b : Nat) (v : Value) : Prop := Has w b (.cells #[.int .u8 1, v] 70)

theorem c_opmode {b : Nat} {v : Value} {w : World} (h : opr w b v) :
    Calls Tryz.prog 99 #[.pointer (some ⟨b, 0, none⟩)] w (Ret fun r w' => r = .int .u8 1 ∧ w = w') := by
  refine W.enter (args := [.pointer (some ⟨b, 0, none⟩)]) Tryz.func99 rfl Tryz.ntmps99 rfl rfl ?_
  (repeat (first
      | (guard_target =~ gU _; first
          | (guard_target =~ gU []; first | refine WU.nilk ?_ )
          | refine WU.yld rfl rfl rfl (by first | (guard_target =~ gY (.move _); exact ze rfl) | (guard_target =~ gY (.assign _); exact yf rfl) | (guard_target =~ gY (.load _ _); first | exact za rfl rfl ) | (guard_target =~ gY (.fieldAddr _ _ _); exact yt rfl) | (guard_target =~ gY (.nilCheck _); first | exact zq rfl ) ) ?_
          )
      | (guard_target =~ gW (.seq _ _); refine W.seq ?_)
      | (guard_target =~ gW (.region _ _ false); refine W.reg ?_)
      | (guard_target =~ gW .ret; refine W.ret ?_)
      ))
  exact fin1 (.inl rfl) rfl rfl ⟨rfl, rfl⟩
theorem c_optyp {b : Nat} {v : Value} {w : World} (h : opr w b v) :
    Calls Tryz.prog 62 #[.pointer (some ⟨b, 0, none⟩)] w (Ret fun r w' => r = v ∧ w = w') := by
  refine W.enter (args := [.pointer (some ⟨b, 0, none⟩)]) Tryz.func62 rfl Tryz.ntmps62 rfl rfl ?_
  (repeat (first
      | (guard_target =~ gU _; first
          | (guard_target =~ gU []; first | refine WU.nilk ?_ )
          | refine WU.yld rfl rfl rfl (by first | (guard_target =~ gY (.move _); exact ze rfl) | (guard_target =~ gY (.assign _); exact yf rfl) | (guard_target =~ gY (.load _ _); first | exact za rfl rfl ) | (guard_target =~ gY (.fieldAddr _ _ _); exact yt rfl) | (guard_target =~ gY (.nilCheck _); first | exact zq rfl ) ) ?_
          )
      | (guard_target =~ gW (.seq _ _); refine W.seq ?_)
      | (guard_target =~ gW (.region _ _ false); refine W.reg ?_)
      | (guard_target =~ gW .ret; refine W.ret ?_)
      ))
  exact fin1 (.inl rfl) rfl rfl ⟨rfl, rfl⟩
theorem c_opvalid {b : Nat} {v : Value} {w : World} (h : opr w b v) :
    Calls Tryz.prog 61 #[.pointer (some ⟨b, 0, none⟩)] w (Ret fun r w' => r = .bool true ∧ w = w') := by
  refine W.enter (args := [.pointer (some ⟨b, 0, none⟩)]) Tryz.func61 rfl Tryz.ntmps61 rfl rfl ?_
  (repeat (first
      | (guard_target =~ gU _; first
          | (guard_target =~ gU []; first | refine WU.nilk ?_ )
          | refine WU.yld rfl rfl rfl (by first | (guard_target =~ gY (.move _); exact ze rfl) | (guard_target =~ gY (.assign _); exact yf rfl) ) ?_
          )
      | (guard_target =~ gW (.seq _ _); refine W.seq ?_)
      | (guard_target =~ gW (.region _ _ false); refine W.reg ?_)
      ))
  refine WU.stp rfl rfl rfl (stp_call rfl (c_opmode h)) ?_
  rintro _ w2 ⟨rfl, rfl⟩
  (repeat (first
      | (guard_target =~ gU _; first
          | (guard_target =~ gU []; first | refine WU.nilk ?_ )
          | refine WU.yld rfl rfl rfl (by first | (guard_target =~ gY (.assign _); exact yf rfl) | (guard_target =~ gY (.binOp .neq _ _ _ _); first | exact zj rfl rfl ) ) ?_
          )
      | (guard_target =~ gW .ret; refine W.ret ?_)
      ))
  exact fin1 (.inl rfl) rfl rfl ⟨rfl, rfl⟩

theorem c_isInvalidBasic {x : GT} {v : Value} {w : World} (hx : Rep w v x) :
    Calls Tryz.prog 86 #[v] w (Ret fun r w' => r = .bool false ∧ w = w') := by
  obtain ⟨b, rfl, hp⟩ := hx.shape
  by_cases hB : tagOf x = 50
  · cases x <;> try (simp [tagOf] at hB; done)
    rename_i k
    cases hx with
    | basic _ hk h1 =>
    refine W.enter (args := [.iface 50 (.pointer (some ⟨b, 0, none⟩))]) Tryz.func86 rfl Tryz.ntmps86 rfl rfl ?_
    (repeat (first
        | (guard_target =~ gU _; first
            | (guard_target =~ gU []; first | refine WU.nilk ?_ )
            | refine WU.yld rfl rfl rfl (by first | (guard_target =~ gY (.move _); exact ze rfl) | (guard_target =~ gY (.assign _); exact yf rfl) | (guard_target =~ gY (.load _ _); first | exact za rfl rfl ) | (guard_target =~ gY (.fieldAddr _ _ _); exact yt rfl) | (guard_target =~ gY (.nilCheck _); first | exact zq rfl ) | (guard_target =~ gY (.extract _ _); exact ys rfl rfl) | (guard_target =~ gY (.typeAssert _ _ _ true); first | exact ye rfl rfl ) | (guard_target =~ gY (.pick _ _ _); first | exact zv rfl rfl ) | (guard_target =~ gY (.binOp .eql _ _ _ _); first | exact yl rfl rfl ) ) ?_
            )
        | (guard_target =~ gW (.seq _ _); refine W.seq ?_)
        | (guard_target =~ gW (.region _ _ false); refine W.reg ?_)
        | (guard_target =~ gW .ret; refine W.ret ?_)
        ))
    rw [show (k == 0) = false by simp; omega]
    skip
    exact fin1 (.inl rfl) rfl rfl ⟨rfl, rfl⟩
  · have hT := beq_no hB
    generalize tagOf x = T at *
    refine W.enter (args := [.iface T (.pointer (some ⟨b, 0, none⟩))]) Tryz.func86 rfl Tryz.ntmps86 rfl rfl ?_
    (repeat (first
        | (guard_target =~ gU _; first
            | (guard_target =~ gU []; first | refine WU.nilk ?_ )
            | refine WU.yld rfl rfl rfl (by first | (guard_target =~ gY (.move _); exact ze rfl) | (guard_target =~ gY (.assign _); exact yf rfl) | (guard_target =~ gY (.extract _ _); exact ys rfl rfl) | (guard_target =~ gY (.typeAssert _ _ _ true); first | exact yd rfl rfl (by first | rfl | assumption) ) | (guard_target =~ gY (.pick _ _ _); first | exact zu rfl rfl ) ) ?_
            | refine WU.skip rfl rfl rfl ?_)
        | (guard_target =~ gW (.seq _ _); refine W.seq ?_)
        | (guard_target =~ gW (.region _ _ false); refine W.reg ?_)
        | (guard_target =~ gW .ret; refine W.ret ?_)
        ))
    exact fin1 (.inl rfl) rfl rfl ⟨rfl, rfl⟩

theorem c_isValid {x : GT} {v : Value} {w : World} (hx : Rep w v x) :
    Calls Tryz.prog 44 #[v] w (Ret fun r w' => r = .bool true ∧ w = w') := by
  obtain ⟨b, rfl, hp⟩ := hx.shape
  have hal := (noT x).al
  refine W.enter (args := [.iface (tagOf x) (.pointer (some ⟨b, 0, none⟩))]) Tryz.func44 rfl Tryz.ntmps44 rfl rfl ?_
  (repeat (first
      | (guard_target =~ gU _; first
          | (guard_target =~ gU []; first | refine WU.nilk ?_ )
          | refine WU.yld rfl rfl rfl (by first | (guard_target =~ gY (.move _); exact ze rfl) | (guard_target =~ gY (.assign _); exact yf rfl) ) ?_
          )
      | (guard_target =~ gW (.seq _ _); refine W.seq ?_)
      | (guard_target =~ gW (.region _ _ false); refine W.reg ?_)
      ))
  refine WU.stp rfl rfl rfl (stp_call rfl (c_Unalias _ _ w hal)) ?_
  rintro _ w2 ⟨rfl, rfl⟩
  refine WU.stp rfl rfl rfl (stp_call rfl (c_isInvalidBasic hx)) ?_
  rintro _ w2 ⟨rfl, rfl⟩
  (repeat (first
      | (guard_target =~ gU _; first
          | (guard_target =~ gU []; first | refine WU.nilk ?_ )
          | refine WU.yld rfl rfl rfl (by first | (guard_target =~ gY (.assign _); exact yf rfl) | (guard_target =~ gY (.unOp .not _ _); exact zs rfl) ) ?_
          )
      | (guard_target =~ gW .ret; refine W.ret ?_)
      ))
  exact fin1 (.inl rfl) rfl rfl ⟨rfl, rfl⟩

def isB : GT → Bool
  | .basic _ => true
  | _ => false
theorem c_hasName {x : GT} {v : Value} {w : World} (hx : Rep w v x) :
    Calls Tryz.prog 63 #[v] w (Ret fun r w' => r = .bool (isB x) ∧ w = w') := by
  obtain ⟨b, rfl, hp⟩ := hx.shape
  have hal := (noT x).al
  have htp := (noT x).tp
  have hnm := (noT x).nam
  by_cases hB : tagOf x = 50
  · cases x <;> try (simp [tagOf] at hB; done)
    refine W.enter (args := [.iface 50 (.pointer (some ⟨b, 0, none⟩))]) Tryz.func63 rfl Tryz.ntmps63 rfl rfl ?_
    (repeat (first
        | (guard_target =~ gU _; first
            | (guard_target =~ gU []; first | refine WU.nilk ?_ )
            | refine WU.yld rfl rfl rfl (by first | (guard_target =~ gY (.move _); exact ze rfl) | (guard_target =~ gY (.assign _); exact yf rfl) ) ?_
            )
        | (guard_target =~ gW (.seq _ _); refine W.seq ?_)
        | (guard_target =~ gW (.region _ _ false); refine W.reg ?_)
        ))
    refine WU.stp rfl rfl rfl (stp_call rfl (c_Unalias _ _ w rfl)) ?_
    rintro _ w2 ⟨rfl, rfl⟩
    (repeat (first
        | (guard_target =~ gU _; first
            | (guard_target =~ gU []; first | refine WU.nilk ?_ )
            | refine WU.yld rfl rfl rfl (by first | (guard_target =~ gY (.assign _); exact yf rfl) | (guard_target =~ gY (.extract _ _); exact ys rfl rfl) | (guard_target =~ gY (.typeAssert _ _ _ true); first | exact ye rfl rfl | exact yd rfl rfl (by first | rfl | assumption) ) | (guard_target =~ gY (.pick _ _ _); first | exact zv rfl rfl | exact zu rfl rfl ) ) ?_
            )
        | (guard_target =~ gW (.seq _ _); refine W.seq ?_)
        | (guard_target =~ gW (.region _ _ false); refine W.reg ?_)
        | (guard_target =~ gW (.cond _ _ _); first | refine W.cond_t rfl ?_ )
        | (guard_target =~ gW (.block _ _); refine W.block ?_)
        | (guard_target =~ gW .ret; refine W.ret ?_)
        | (guard_target =~ gT .ret; refine thn_ret ?_)
        | (guard_target =~ gI .ret; refine inb_ret ?_)))
    exact fin1 (.inl rfl) rfl rfl ⟨rfl, rfl⟩
  · have hT := beq_no hB
    have hb : isB x = false := by cases x <;> first | rfl | exact absurd rfl hB
    rw [hb]
    generalize tagOf x = T at *
    refine W.enter (args := [.iface T (.pointer (some ⟨b, 0, none⟩))]) Tryz.func63 rfl Tryz.ntmps63 rfl rfl ?_
    (repeat (first
        | (guard_target =~ gU _; first
            | (guard_target =~ gU []; first | refine WU.nilk ?_ )
            | refine WU.yld rfl rfl rfl (by first | (guard_target =~ gY (.move _); exact ze rfl) | (guard_target =~ gY (.assign _); exact yf rfl) ) ?_
            )
        | (guard_target =~ gW (.seq _ _); refine W.seq ?_)
        | (guard_target =~ gW (.region _ _ false); refine W.reg ?_)
        ))
    refine WU.stp rfl rfl rfl (stp_call rfl (c_Unalias _ _ w hal)) ?_
    rintro _ w2 ⟨rfl, rfl⟩
    (repeat (first
        | (guard_target =~ gU _; first
            | (guard_target =~ gU []; first | refine WU.nilk ?_ )
            | refine WU.yld rfl rfl rfl (by first | (guard_target =~ gY (.assign _); exact yf rfl) | (guard_target =~ gY (.extract _ _); exact ys rfl rfl) | (guard_target =~ gY (.typeAssert _ _ _ true); first | exact yd rfl rfl (by first | rfl | assumption) ) | (guard_target =~ gY (.pick _ _ _); first | exact zu rfl rfl ) ) ?_
            )
        | (guard_target =~ gW (.seq _ _); refine W.seq ?_)
        | (guard_target =~ gW (.region _ _ false); refine W.reg ?_)
        | (guard_target =~ gW (.cond _ _ _); first | refine W.cond_f rfl ?_)
        | (guard_target =~ gW (.block _ _); refine W.block ?_)
        | (guard_target =~ gW .skip; refine W.skip ?_)
        | (guard_target =~ gW .ret; refine W.ret ?_)
        ))
    exact fin1 (.inl rfl) rfl rfl ⟨rfl, rfl⟩

theorem c_isTypeParam {x : GT} {v : Value} {w : World} (hx : Rep w v x) :
    Calls Tryz.prog 58 #[v] w (Ret fun r w' => r = .bool false ∧ w = w') := by
  obtain ⟨b, rfl, hp⟩ := hx.shape
  have hal := (noT x).al
  have htp := (noT x).tp
  generalize tagOf x = T at *
  refine W.enter (args := [.iface T (.pointer (some ⟨b, 0, none⟩))]) Tryz.func58 rfl Tryz.ntmps58 rfl rfl ?_
  (repeat (first
      | (guard_target =~ gU _; first
          | (guard_target =~ gU []; first | refine WU.nilk ?_ )
          | refine WU.yld rfl rfl rfl (by first | (guard_target =~ gY (.move _); exact ze rfl) | (guard_target =~ gY (.assign _); exact yf rfl) ) ?_
          )
      | (guard_target =~ gW (.seq _ _); refine W.seq ?_)
      | (guard_target =~ gW (.region _ _ false); refine W.reg ?_)
      ))
  refine WU.stp rfl rfl rfl (stp_call rfl (c_Unalias _ _ w hal)) ?_
  rintro _ w2 ⟨rfl, rfl⟩
  (repeat (first
      | (guard_target =~ gU _; first
          | (guard_target =~ gU []; first | refine WU.nilk ?_ )
          | refine WU.yld rfl rfl rfl (by first | (guard_target =~ gY (.move _); exact ze rfl) | (guard_target =~ gY (.assign _); exact yf rfl) | (guard_target =~ gY (.extract _ _); exact ys rfl rfl) | (guard_target =~ gY (.typeAssert _ _ _ true); first | exact yd rfl rfl (by first | rfl | assumption) ) ) ?_
          )
      | (guard_target =~ gW (.seq _ _); refine W.seq ?_)
      | (guard_target =~ gW (.region _ _ false); refine W.reg ?_)
      | (guard_target =~ gW .ret; refine W.ret ?_)
      ))
  exact fin1 (.inl rfl) rfl rfl ⟨rfl, rfl⟩

theorem c_IsInterface {x : GT} {v : Value} {w : World} (hx : Rep w v x) :
    Calls Tryz.prog 100 #[v] w (Ret fun r w' => r = .bool false ∧ w = w') := by
  obtain ⟨b, rfl, hp⟩ := hx.shape
  have hit := (noT x).itf
  refine W.enter (args := [.iface (tagOf x) (.pointer (some ⟨b, 0, none⟩))]) Tryz.func100 rfl Tryz.ntmps100 rfl rfl ?_
  (repeat (first
      | (guard_target =~ gU _; first
          | (guard_target =~ gU []; first | refine WU.nilk ?_ )
          | refine WU.yld rfl rfl rfl (by first | (guard_target =~ gY (.move _); exact ze rfl) | (guard_target =~ gY (.assign _); exact yf rfl) ) ?_
          )
      | (guard_target =~ gW (.seq _ _); refine W.seq ?_)
      | (guard_target =~ gW (.region _ _ false); refine W.reg ?_)
      ))
  refine WU.stp rfl rfl rfl (stp_und hx rfl) ?_
  rintro _ w2 ⟨rfl, rfl⟩
  (repeat (first
      | (guard_target =~ gU _; first
          | (guard_target =~ gU []; first | refine WU.nilk ?_ )
          | refine WU.yld rfl rfl rfl (by first | (guard_target =~ gY (.move _); exact ze rfl) | (guard_target =~ gY (.assign _); exact yf rfl) | (guard_target =~ gY (.extract _ _); exact ys rfl rfl) | (guard_target =~ gY (.typeAssert _ _ _ true); first | exact yd rfl rfl (by first | rfl | assumption) ) ) ?_
          )
      | (guard_target =~ gW (.seq _ _); refine W.seq ?_)
      | (guard_target =~ gW (.region _ _ false); refine W.reg ?_)
      | (guard_target =~ gW .ret; refine W.ret ?_)
      ))
  exact fin1 (.inl rfl) rfl rfl ⟨rfl, rfl⟩

theorem c_isInterfacePtr {x : GT} {v : Value} {w : World} (hx : Rep w v x) :
    Calls Tryz.prog 64 #[v] w (Ret fun r w' => r = .bool false ∧ w = w') := by
  obtain ⟨b, rfl, hp⟩ := hx.shape
  by_cases hB : tagOf x = 54
  · cases x <;> try (simp [tagOf] at hB; done)
    have hx' := hx
    cases hx with
    | ptr h1 hv =>
    refine W.enter (args := [.iface 54 (.pointer (some ⟨b, 0, none⟩))]) Tryz.func64 rfl Tryz.ntmps64 rfl rfl ?_
    (repeat (first
        | (guard_target =~ gU _; first
            | (guard_target =~ gU []; first | refine WU.nilk ?_ )
            | refine WU.yld rfl rfl rfl (by first | (guard_target =~ gY (.move _); exact ze rfl) | (guard_target =~ gY (.assign _); exact yf rfl) ) ?_
            )
        | (guard_target =~ gW (.seq _ _); refine W.seq ?_)
        | (guard_target =~ gW (.region _ _ false); refine W.reg ?_)
        ))
    refine WU.stp rfl rfl rfl (stp_und hx' rfl) ?_
    rintro _ w2 ⟨rfl, rfl⟩
    (repeat (first
        | (guard_target =~ gU _; first
            | (guard_target =~ gU []; first | refine WU.nilk ?_ )
            | refine WU.yld rfl rfl rfl (by first | (guard_target =~ gY (.move _); exact ze rfl) | (guard_target =~ gY (.assign _); exact yf rfl) | (guard_target =~ gY (.load _ _); first | exact za rfl rfl ) | (guard_target =~ gY (.fieldAddr _ _ _); exact yt rfl) | (guard_target =~ gY (.nilCheck _); first | exact zq rfl ) | (guard_target =~ gY (.extract _ _); exact ys rfl rfl) | (guard_target =~ gY (.typeAssert _ _ _ true); first | exact ye rfl rfl ) | (guard_target =~ gY (.binOp .neq _ _ _ _); first | exact zn rfl rfl ) ) ?_
            )
        | (guard_target =~ gW (.seq _ _); refine W.seq ?_)
        | (guard_target =~ gW (.region _ _ false); refine W.reg ?_)
        ))
    refine WU.stp rfl rfl rfl (stp_call rfl (c_IsInterface hv)) ?_
    rintro _ w2 ⟨rfl, rfl⟩
    (repeat (first
        | (guard_target =~ gU _; first
            | (guard_target =~ gU []; first | refine WU.nilk ?_ )
            | refine WU.yld rfl rfl rfl (by first | (guard_target =~ gY (.assign _); exact yf rfl) | (guard_target =~ gY (.pick _ _ _); first | exact zv rfl rfl ) ) ?_
            )
        | (guard_target =~ gW .ret; refine W.ret ?_)
        ))
    exact fin1 (.inl rfl) rfl rfl ⟨rfl, rfl⟩
  · have hT := beq_no hB
    refine W.enter (args := [.iface (tagOf x) (.pointer (some ⟨b, 0, none⟩))]) Tryz.func64 rfl Tryz.ntmps64 rfl rfl ?_
    (repeat (first
        | (guard_target =~ gU _; first
            | (guard_target =~ gU []; first | refine WU.nilk ?_ )
            | refine WU.yld rfl rfl rfl (by first | (guard_target =~ gY (.move _); exact ze rfl) | (guard_target =~ gY (.assign _); exact yf rfl) ) ?_
            )
        | (guard_target =~ gW (.seq _ _); refine W.seq ?_)
        | (guard_target =~ gW (.region _ _ false); refine W.reg ?_)
        ))
    refine WU.stp rfl rfl rfl (stp_und hx rfl) ?_
    rintro _ w2 ⟨rfl, rfl⟩
    (repeat (first
        | (guard_target =~ gU _; first
            | (guard_target =~ gU []; first | refine WU.nilk ?_ )
            | refine WU.yld rfl rfl rfl (by first | (guard_target =~ gY (.move _); exact ze rfl) | (guard_target =~ gY (.assign _); exact yf rfl) | (guard_target =~ gY (.extract _ _); exact ys rfl rfl) | (guard_target =~ gY (.typeAssert _ _ _ true); first | exact yd rfl rfl (by first | rfl | assumption) ) | (guard_target =~ gY (.pick _ _ _); first | exact zu rfl rfl ) | (guard_target =~ gY (.binOp .neq _ _ _ _); first | exact zm rfl rfl ) ) ?_
            | refine WU.skip rfl rfl rfl ?_)
        | (guard_target =~ gW (.seq _ _); refine W.seq ?_)
        | (guard_target =~ gW (.region _ _ false); refine W.reg ?_)
        | (guard_target =~ gW .ret; refine W.ret ?_)
        ))
    exact fin1 (.inl rfl) rfl rfl ⟨rfl, rfl⟩

def asgG (x y : GT) : Bool := decide (x = y) || match x, y with
  | .chan d t, .chan _ u => d == 0 && decide (t = u)
  | _, _ => false
abbrev Asg (w : World) (bo : Nat) (vy : Value) (r : Bool) : Prop :=
  Calls Tryz.prog 41 #[.pointer (some ⟨bo, 0, none⟩), .pointer none, vy, .pointer none] w
      (Ret fun v w' => (∃ c, v = .tuple #[.bool r, .int .i64 c]) ∧ Ext w w')

set_option maxHeartbeats 1000000 in
theorem asg_same {x y : GT} {bx b bo : Nat} {w : World} (hx : Rep w (.iface (tagOf x) (.pointer (some ⟨bx, 0, none⟩))) x) (hy : Rep w (.iface (tagOf y) (.pointer (some ⟨b, 0, none⟩))) y) (hO : opr w bo (.iface (tagOf x) (.pointer (some ⟨bx, 0, none⟩)))) (heq : x = y) : Asg w bo (.iface (tagOf y) (.pointer (some ⟨b, 0, none⟩))) true := by
  refine W.enter (args := [.pointer (some ⟨bo, 0, none⟩), .pointer none, (.iface (tagOf y) (.pointer (some ⟨b, 0, none⟩))), .pointer none]) Tryz.func41 rfl Tryz.ntmps41 rfl rfl ?_
  (repeat (first
      | (guard_target =~ gW (.seq _ _); refine W.seq ?_)
      | (guard_target =~ gW (.region _ _ false); refine W.reg ?_)
      ))
  refine WU.stp rfl rfl rfl (by first | exact stp_box rfl rfl | exact stp_box1 rfl rfl) ?_
  rintro _ w1 ⟨b1, rfl, n1⟩
  refine WU.stp rfl rfl rfl (by first | exact stp_box rfl rfl | exact stp_box1 rfl rfl) ?_
  rintro _ w2 ⟨b2, rfl, n2⟩
  refine WU.stp rfl rfl rfl (by first | exact stp_box rfl rfl | exact stp_box1 rfl rfl) ?_
  rintro _ w3 ⟨b3, rfl, n3⟩
  refine WU.stp rfl rfl rfl (by first | exact stp_box rfl rfl | exact stp_box1 rfl rfl) ?_
  rintro _ w4 ⟨b4, rfl, n4⟩
  have xa : Ext w w4 := n1.ext.trans (n2.ext.trans (n3.ext.trans n4.ext))
  have hx4 := hx.ext xa
  have hy4 := hy.ext xa
  have hm1 := n1.num
  have hm2 := n2.num
  have hm3 := n3.num
  have hm4 := n4.num
  have hs1 := n1.size
  have hs2 := n2.size
  have hs3 := n3.size
  have ho := hO.ext' xa
  (repeat (first
      | (guard_target =~ gU _; first
          | (guard_target =~ gU []; first | refine WU.nilk ?_ )
          | refine WU.yld rfl rfl rfl (by first | (guard_target =~ gY (.assign _); exact yf rfl) | (guard_target =~ gY (.load _ _); first | exact za rfl rfl ) ) ?_
          )
      | (guard_target =~ gW (.seq _ _); refine W.seq ?_)
      | (guard_target =~ gW (.region _ _ false); refine W.reg ?_)
      ))
  refine WU.stp rfl rfl rfl (stp_call rfl (c_opvalid ho)) ?_
  rintro _ w5 ⟨rfl, rfl⟩
  (repeat (first
      | (guard_target =~ gU _; first
          | refine WU.yld rfl rfl rfl (by first | (guard_target =~ gY (.move _); exact ze rfl) | (guard_target =~ gY (.load _ _); first | exact za rfl rfl ) | (guard_target =~ gY (.unOp .not _ _); exact zs rfl) ) ?_
          )
      ))
  refine WU.stp rfl rfl rfl (stp_call rfl (c_isValid hy4)) ?_
  rintro _ w5 ⟨rfl, rfl⟩
  (repeat (first
      | (guard_target =~ gU _; first
          | (guard_target =~ gU []; first | refine WU.nilk ?_ )
          | refine WU.yld rfl rfl rfl (by first | (guard_target =~ gY (.load _ _); first | exact za rfl rfl ) | (guard_target =~ gY (.pick _ _ _); first | exact zu rfl rfl ) | (guard_target =~ gY (.unOp .not _ _); exact zs rfl) ) ?_
          )
      | (guard_target =~ gW (.seq _ _); refine W.seq ?_)
      | (guard_target =~ gW (.region _ _ false); refine W.reg ?_)
      | (guard_target =~ gW (.cond _ _ _); first | refine W.cond_f rfl ?_)
      | (guard_target =~ gW .skip; refine W.skip ?_)
      ))
  refine WU.stp rfl rfl rfl (stp_call rfl (c_optyp ho)) ?_
  rintro _ w5 ⟨rfl, rfl⟩
  refine WU.stp rfl rfl rfl (stp_call rfl (c_Unalias _ _ w4 (noT x).al)) ?_
  rintro _ w5 ⟨rfl, rfl⟩
  (repeat (first
      | (guard_target =~ gU _; first
          | (guard_target =~ gU []; first | refine WU.nilk ?_ )
          | refine WU.yld rfl rfl rfl (by first | (guard_target =~ gY (.assign _); exact yf rfl) | (guard_target =~ gY (.load _ _); first | exact za rfl rfl ) ) ?_
          )
      | (guard_target =~ gW (.seq _ _); refine W.seq ?_)
      | (guard_target =~ gW (.region _ _ false); refine W.reg ?_)
      ))
  refine WU.stp rfl rfl rfl (stp_call rfl (c_Unalias _ _ w4 (noT y).al)) ?_
  rintro _ w5 ⟨rfl, rfl⟩
  refine WU.stp0 rfl rfl (stp_store_cell rfl rfl rfl rfl) ?_
  rintro _ w5 u5
  have xb : Ext w w5 := u5.ext xa (by omega)
  have hx5 := hx.ext xb
  have hy5 := hy.ext xb
  have k1 : Has w5 b1 _ := u5.keep inferInstance (by omega)
  have k2 : Has w5 b2 _ := u5.keep inferInstance (by omega)
  have k4 : Has w5 b4 _ := u5.keep inferInstance (by omega)
  (repeat (first
      | (guard_target =~ gU _; first
          | (guard_target =~ gU []; first | refine WU.nilk ?_ )
          | refine WU.yld rfl rfl rfl (by first | (guard_target =~ gY (.move _); exact ze rfl) | (guard_target =~ gY (.load _ _); first | exact za rfl rfl ) ) ?_
          )
      | (guard_target =~ gW (.seq _ _); refine W.seq ?_)
      | (guard_target =~ gW (.region _ _ false); refine W.reg ?_)
      ))
  refine WU.stp rfl rfl rfl (stp_call rfl (c_Identical hx5 hy5)) ?_
  rintro _ w6 ⟨rfl, x6⟩
  have xc := xb.trans x6
  have hx6 := hx.ext xc
  have hy6 := hy.ext xc
  rw [decide_eq_true heq]
  (repeat (first
      | (guard_target =~ gU _; first
          | (guard_target =~ gU []; first | refine WU.nilk ?_ )
          | refine WU.yld rfl rfl rfl (by first | (guard_target =~ gY (.assign _); exact yf rfl) ) ?_
          )
      | (guard_target =~ gW (.seq _ _); refine W.seq ?_)
      | (guard_target =~ gW (.region _ _ false); refine W.reg ?_)
      | (guard_target =~ gW (.cond _ _ _); first | refine W.cond_t rfl ?_ )
      | (guard_target =~ gW .ret; refine W.ret ?_)
      | (guard_target =~ gT .ret; refine thn_ret ?_)
      ))
  exact fin2 (.inl rfl) rfl rfl rfl ⟨⟨_, rfl⟩, xc⟩

set_option maxHeartbeats 1000000 in
theorem asg_no {x y : GT} {bx b bo : Nat} {w : World} (hx : Rep w (.iface (tagOf x) (.pointer (some ⟨bx, 0, none⟩))) x) (hy : Rep w (.iface (tagOf y) (.pointer (some ⟨b, 0, none⟩))) y) (hO : opr w bo (.iface (tagOf x) (.pointer (some ⟨bx, 0, none⟩)))) (hne : ¬ x = y) (hc : Nat.beq (tagOf x) 60 = false) : Asg w bo (.iface (tagOf y) (.pointer (some ⟨b, 0, none⟩))) false := by
  refine W.enter (args := [.pointer (some ⟨bo, 0, none⟩), .pointer none, (.iface (tagOf y) (.pointer (some ⟨b, 0, none⟩))), .pointer none]) Tryz.func41 rfl Tryz.ntmps41 rfl rfl ?_
  (repeat (first
      | (guard_target =~ gW (.seq _ _); refine W.seq ?_)
      | (guard_target =~ gW (.region _ _ false); refine W.reg ?_)
      ))
  refine WU.stp rfl rfl rfl (by first | exact stp_box rfl rfl | exact stp_box1 rfl rfl) ?_
  rintro _ w1 ⟨b1, rfl, n1⟩
  refine WU.stp rfl rfl rfl (by first | exact stp_box rfl rfl | exact stp_box1 rfl rfl) ?_
  rintro _ w2 ⟨b2, rfl, n2⟩
  refine WU.stp rfl rfl rfl (by first | exact stp_box rfl rfl | exact stp_box1 rfl rfl) ?_
  rintro _ w3 ⟨b3, rfl, n3⟩
  refine WU.stp rfl rfl rfl (by first | exact stp_box rfl rfl | exact stp_box1 rfl rfl) ?_
  rintro _ w4 ⟨b4, rfl, n4⟩
  have xa : Ext w w4 := n1.ext.trans (n2.ext.trans (n3.ext.trans n4.ext))
  have hx4 := hx.ext xa
  have hy4 := hy.ext xa
  have hm1 := n1.num
  have hm2 := n2.num
  have hm3 := n3.num
  have hm4 := n4.num
  have hs1 := n1.size
  have hs2 := n2.size
  have hs3 := n3.size
  have ho := hO.ext' xa
  (repeat (first
      | (guard_target =~ gU _; first
          | (guard_target =~ gU []; first | refine WU.nilk ?_ )
          | refine WU.yld rfl rfl rfl (by first | (guard_target =~ gY (.assign _); exact yf rfl) | (guard_target =~ gY (.load _ _); first | exact za rfl rfl ) ) ?_
          )
      | (guard_target =~ gW (.seq _ _); refine W.seq ?_)
      | (guard_target =~ gW (.region _ _ false); refine W.reg ?_)
      ))
  refine WU.stp rfl rfl rfl (stp_call rfl (c_opvalid ho)) ?_
  rintro _ w5 ⟨rfl, rfl⟩
  (repeat (first
      | (guard_target =~ gU _; first
          | refine WU.yld rfl rfl rfl (by first | (guard_target =~ gY (.move _); exact ze rfl) | (guard_target =~ gY (.load _ _); first | exact za rfl rfl ) | (guard_target =~ gY (.unOp .not _ _); exact zs rfl) ) ?_
          )
      ))
  refine WU.stp rfl rfl rfl (stp_call rfl (c_isValid hy4)) ?_
  rintro _ w5 ⟨rfl, rfl⟩
  (repeat (first
      | (guard_target =~ gU _; first
          | (guard_target =~ gU []; first | refine WU.nilk ?_ )
          | refine WU.yld rfl rfl rfl (by first | (guard_target =~ gY (.load _ _); first | exact za rfl rfl ) | (guard_target =~ gY (.pick _ _ _); first | exact zu rfl rfl ) | (guard_target =~ gY (.unOp .not _ _); exact zs rfl) ) ?_
          )
      | (guard_target =~ gW (.seq _ _); refine W.seq ?_)
      | (guard_target =~ gW (.region _ _ false); refine W.reg ?_)
      | (guard_target =~ gW (.cond _ _ _); first | refine W.cond_f rfl ?_)
      | (guard_target =~ gW .skip; refine W.skip ?_)
      ))
  refine WU.stp rfl rfl rfl (stp_call rfl (c_optyp ho)) ?_
  rintro _ w5 ⟨rfl, rfl⟩
  refine WU.stp rfl rfl rfl (stp_call rfl (c_Unalias _ _ w4 (noT x).al)) ?_
  rintro _ w5 ⟨rfl, rfl⟩
  (repeat (first
      | (guard_target =~ gU _; first
          | (guard_target =~ gU []; first | refine WU.nilk ?_ )
          | refine WU.yld rfl rfl rfl (by first | (guard_target =~ gY (.assign _); exact yf rfl) | (guard_target =~ gY (.load _ _); first | exact za rfl rfl ) ) ?_
          )
      | (guard_target =~ gW (.seq _ _); refine W.seq ?_)
      | (guard_target =~ gW (.region _ _ false); refine W.reg ?_)
      ))
  refine WU.stp rfl rfl rfl (stp_call rfl (c_Unalias _ _ w4 (noT y).al)) ?_
  rintro _ w5 ⟨rfl, rfl⟩
  refine WU.stp0 rfl rfl (stp_store_cell rfl rfl rfl rfl) ?_
  rintro _ w5 u5
  have xb : Ext w w5 := u5.ext xa (by omega)
  have hx5 := hx.ext xb
  have hy5 := hy.ext xb
  have k1 : Has w5 b1 _ := u5.keep inferInstance (by omega)
  have k2 : Has w5 b2 _ := u5.keep inferInstance (by omega)
  have k4 : Has w5 b4 _ := u5.keep inferInstance (by omega)
  (repeat (first
      | (guard_target =~ gU _; first
          | (guard_target =~ gU []; first | refine WU.nilk ?_ )
          | refine WU.yld rfl rfl rfl (by first | (guard_target =~ gY (.move _); exact ze rfl) | (guard_target =~ gY (.load _ _); first | exact za rfl rfl ) ) ?_
          )
      | (guard_target =~ gW (.seq _ _); refine W.seq ?_)
      | (guard_target =~ gW (.region _ _ false); refine W.reg ?_)
      ))
  refine WU.stp rfl rfl rfl (stp_call rfl (c_Identical hx5 hy5)) ?_
  rintro _ w6 ⟨rfl, x6⟩
  have xc := xb.trans x6
  have hx6 := hx.ext xc
  have hy6 := hy.ext xc
  rw [decide_eq_false hne]
  have itx := (noT x).itf
  have ity := (noT y).itf
  have tpx := (noT x).tp
  have tpy := (noT y).tp
  (repeat (first
      | (guard_target =~ gU _; first
          | (guard_target =~ gU []; first | refine WU.nilk ?_ )
          | refine WU.yld rfl rfl rfl (by first | (guard_target =~ gY (.move _); exact ze rfl) ) ?_
          )
      | (guard_target =~ gW (.seq _ _); refine W.seq ?_)
      | (guard_target =~ gW (.region _ _ false); refine W.reg ?_)
      | (guard_target =~ gW (.cond _ _ _); first | refine W.cond_f rfl ?_)
      | (guard_target =~ gW .skip; refine W.skip ?_)
      ))
  refine WU.stp rfl rfl rfl (stp_und hx6 rfl) ?_
  rintro _ w7 ⟨rfl, rfl⟩
  (repeat (first
      | (guard_target =~ gU _; first
          | (guard_target =~ gU []; first | refine WU.nilk ?_ )
          | refine WU.yld rfl rfl rfl (by first | (guard_target =~ gY (.assign _); exact yf rfl) | (guard_target =~ gY (.load _ _); first | exact za rfl rfl ) ) ?_
          )
      | (guard_target =~ gW (.seq _ _); refine W.seq ?_)
      | (guard_target =~ gW (.region _ _ false); refine W.reg ?_)
      ))
  refine WU.stp rfl rfl rfl (stp_und hy6 rfl) ?_
  rintro _ w7 ⟨rfl, rfl⟩
  (repeat (first
      | (guard_target =~ gU _; first
          | (guard_target =~ gU []; first | refine WU.nilk ?_ )
          | refine WU.yld rfl rfl rfl (by first | (guard_target =~ gY (.move _); exact ze rfl) | (guard_target =~ gY (.assign _); exact yf rfl) | (guard_target =~ gY (.load _ _); first | exact za rfl rfl ) | (guard_target =~ gY (.extract _ _); exact ys rfl rfl) | (guard_target =~ gY (.typeAssert _ _ _ true); first | exact yd rfl rfl (by first | rfl | assumption) ) ) ?_
          )
      | (guard_target =~ gW (.seq _ _); refine W.seq ?_)
      | (guard_target =~ gW (.region _ _ false); refine W.reg ?_)
      ))
  refine WU.stp rfl rfl rfl (stp_call rfl (c_Identical hx6 hy6)) ?_
  rintro _ w8 ⟨rfl, x8⟩
  rw [decide_eq_false hne]
  have xd := xc.trans x8
  have hx8 := hx.ext xd
  have hy8 := hy.ext xd
  (repeat (first
      | (guard_target =~ gU _; first
          | (guard_target =~ gU []; first | refine WU.nilk ?_ )
          | refine WU.yld rfl rfl rfl (by first | (guard_target =~ gY (.move _); exact ze rfl) | (guard_target =~ gY (.assign _); exact yf rfl) | (guard_target =~ gY (.load _ _); first | exact za rfl rfl ) | (guard_target =~ gY (.extract _ _); exact ys rfl rfl) | (guard_target =~ gY (.typeAssert _ _ _ true); first | exact yd rfl rfl (by first | rfl | assumption) ) | (guard_target =~ gY (.pick _ _ _); first | exact zu rfl rfl ) ) ?_
          | refine WU.skip rfl rfl rfl ?_)
      | (guard_target =~ gW (.seq _ _); refine W.seq ?_)
      | (guard_target =~ gW (.region _ _ false); refine W.reg ?_)
      | (guard_target =~ gW (.cond _ _ _); first | refine W.cond_f rfl ?_)
      | (guard_target =~ gW .skip; refine W.skip ?_)
      ))
  refine WU.stp rfl rfl rfl (stp_call rfl (c_isInterfacePtr hy8)) ?_
  rintro _ w9 ⟨rfl, rfl⟩
  (repeat (first
      | (guard_target =~ gU _; first
          | (guard_target =~ gU []; first | refine WU.nilk ?_ )
          | refine WU.yld rfl rfl rfl (by first | (guard_target =~ gY (.move _); exact ze rfl) | (guard_target =~ gY (.assign _); exact yf rfl) | (guard_target =~ gY (.extract _ _); exact ys rfl rfl) | (guard_target =~ gY (.typeAssert _ _ _ true); first | exact yd rfl rfl (by first | rfl | assumption) ) | (guard_target =~ gY (.pick _ _ _); first | exact zv rfl rfl | exact zu rfl rfl ) | (guard_target =~ gY (.binOp .neq _ _ _ _); first | exact zm rfl rfl ) | (guard_target =~ gY (.binOp .eql _ _ _ _); first | exact yo rfl rfl ) ) ?_
          | refine WU.skip rfl rfl rfl ?_)
      | (guard_target =~ gW (.seq _ _); refine W.seq ?_)
      | (guard_target =~ gW (.region _ _ false); refine W.reg ?_)
      | (guard_target =~ gW (.cond _ _ _); first | refine W.cond_t rfl ?_ | refine W.cond_f rfl ?_)
      | (guard_target =~ gW .skip; refine W.skip ?_)
      | (guard_target =~ gW .ret; refine W.ret ?_)
      | (guard_target =~ gT .ret; refine thn_ret ?_)
      ))
  exact fin2 (.inl rfl) rfl rfl rfl ⟨⟨_, rfl⟩, xd⟩

set_option maxHeartbeats 1000000 in
theorem asg_chan_no {d : Int} {t y : GT} {bx b bo : Nat} {w : World} (hx : Rep w (.iface 60 (.pointer (some ⟨bx, 0, none⟩))) (.chan d t)) (hy : Rep w (.iface (tagOf y) (.pointer (some ⟨b, 0, none⟩))) y) (hO : opr w bo (.iface 60 (.pointer (some ⟨bx, 0, none⟩)))) (hne : ¬ GT.chan d t = y) (hc : Nat.beq (tagOf y) 60 = false) : Asg w bo (.iface (tagOf y) (.pointer (some ⟨b, 0, none⟩))) false := by
  refine W.enter (args := [.pointer (some ⟨bo, 0, none⟩), .pointer none, (.iface (tagOf y) (.pointer (some ⟨b, 0, none⟩))), .pointer none]) Tryz.func41 rfl Tryz.ntmps41 rfl rfl ?_
  (repeat (first
      | (guard_target =~ gW (.seq _ _); refine W.seq ?_)
      | (guard_target =~ gW (.region _ _ false); refine W.reg ?_)
      ))
  refine WU.stp rfl rfl rfl (by first | exact stp_box rfl rfl | exact stp_box1 rfl rfl) ?_
  rintro _ w1 ⟨b1, rfl, n1⟩
  refine WU.stp rfl rfl rfl (by first | exact stp_box rfl rfl | exact stp_box1 rfl rfl) ?_
  rintro _ w2 ⟨b2, rfl, n2⟩
  refine WU.stp rfl rfl rfl (by first | exact stp_box rfl rfl | exact stp_box1 rfl rfl) ?_
  rintro _ w3 ⟨b3, rfl, n3⟩
  refine WU.stp rfl rfl rfl (by first | exact stp_box rfl rfl | exact stp_box1 rfl rfl) ?_
  rintro _ w4 ⟨b4, rfl, n4⟩
  have xa : Ext w w4 := n1.ext.trans (n2.ext.trans (n3.ext.trans n4.ext))
  have hx4 := hx.ext xa
  have hy4 := hy.ext xa
  have hm1 := n1.num
  have hm2 := n2.num
  have hm3 := n3.num
  have hm4 := n4.num
  have hs1 := n1.size
  have hs2 := n2.size
  have hs3 := n3.size
  have ho := hO.ext' xa
  (repeat (first
      | (guard_target =~ gU _; first
          | (guard_target =~ gU []; first | refine WU.nilk ?_ )
          | refine WU.yld rfl rfl rfl (by first | (guard_target =~ gY (.assign _); exact yf rfl) | (guard_target =~ gY (.load _ _); first | exact za rfl rfl ) ) ?_
          )
      | (guard_target =~ gW (.seq _ _); refine W.seq ?_)
      | (guard_target =~ gW (.region _ _ false); refine W.reg ?_)
      ))
  refine WU.stp rfl rfl rfl (stp_call rfl (c_opvalid ho)) ?_
  rintro _ w5 ⟨rfl, rfl⟩
  (repeat (first
      | (guard_target =~ gU _; first
          | refine WU.yld rfl rfl rfl (by first | (guard_target =~ gY (.move _); exact ze rfl) | (guard_target =~ gY (.load _ _); first | exact za rfl rfl ) | (guard_target =~ gY (.unOp .not _ _); exact zs rfl) ) ?_
          )
      ))
  refine WU.stp rfl rfl rfl (stp_call rfl (c_isValid hy4)) ?_
  rintro _ w5 ⟨rfl, rfl⟩
  (repeat (first
      | (guard_target =~ gU _; first
          | (guard_target =~ gU []; first | refine WU.nilk ?_ )
          | refine WU.yld rfl rfl rfl (by first | (guard_target =~ gY (.load _ _); first | exact za rfl rfl ) | (guard_target =~ gY (.pick _ _ _); first | exact zu rfl rfl ) | (guard_target =~ gY (.unOp .not _ _); exact zs rfl) ) ?_
          )
      | (guard_target =~ gW (.seq _ _); refine W.seq ?_)
      | (guard_target =~ gW (.region _ _ false); refine W.reg ?_)
      | (guard_target =~ gW (.cond _ _ _); first | refine W.cond_f rfl ?_)
      | (guard_target =~ gW .skip; refine W.skip ?_)
      ))
  refine WU.stp rfl rfl rfl (stp_call rfl (c_optyp ho)) ?_
  rintro _ w5 ⟨rfl, rfl⟩
  refine WU.stp rfl rfl rfl (stp_call rfl (c_Unalias _ _ w4 (noT (.chan d t)).al)) ?_
  rintro _ w5 ⟨rfl, rfl⟩
  (repeat (first
      | (guard_target =~ gU _; first
          | (guard_target =~ gU []; first | refine WU.nilk ?_ )
          | refine WU.yld rfl rfl rfl (by first | (guard_target =~ gY (.assign _); exact yf rfl) | (guard_target =~ gY (.load _ _); first | exact za rfl rfl ) ) ?_
          )
      | (guard_target =~ gW (.seq _ _); refine W.seq ?_)
      | (guard_target =~ gW (.region _ _ false); refine W.reg ?_)
      ))
  refine WU.stp rfl rfl rfl (stp_call rfl (c_Unalias _ _ w4 (noT y).al)) ?_
  rintro _ w5 ⟨rfl, rfl⟩
  refine WU.stp0 rfl rfl (stp_store_cell rfl rfl rfl rfl) ?_
  rintro _ w5 u5
  have xb : Ext w w5 := u5.ext xa (by omega)
  have hx5 := hx.ext xb
  have hy5 := hy.ext xb
  have k1 : Has w5 b1 _ := u5.keep inferInstance (by omega)
  have k2 : Has w5 b2 _ := u5.keep inferInstance (by omega)
  have k4 : Has w5 b4 _ := u5.keep inferInstance (by omega)
  (repeat (first
      | (guard_target =~ gU _; first
          | (guard_target =~ gU []; first | refine WU.nilk ?_ )
          | refine WU.yld rfl rfl rfl (by first | (guard_target =~ gY (.move _); exact ze rfl) | (guard_target =~ gY (.load _ _); first | exact za rfl rfl ) ) ?_
          )
      | (guard_target =~ gW (.seq _ _); refine W.seq ?_)
      | (guard_target =~ gW (.region _ _ false); refine W.reg ?_)
      ))
  refine WU.stp rfl rfl rfl (stp_call rfl (c_Identical hx5 hy5)) ?_
  rintro _ w6 ⟨rfl, x6⟩
  have xc := xb.trans x6
  have hx6 := hx.ext xc
  have hy6 := hy.ext xc
  rw [decide_eq_false hne]
  have itx := (noT (.chan d t)).itf
  have ity := (noT y).itf
  have tpx := (noT (.chan d t)).tp
  have tpy := (noT y).tp
  (repeat (first
      | (guard_target =~ gU _; first
          | (guard_target =~ gU []; first | refine WU.nilk ?_ )
          | refine WU.yld rfl rfl rfl (by first | (guard_target =~ gY (.move _); exact ze rfl) ) ?_
          )
      | (guard_target =~ gW (.seq _ _); refine W.seq ?_)
      | (guard_target =~ gW (.region _ _ false); refine W.reg ?_)
      | (guard_target =~ gW (.cond _ _ _); first | refine W.cond_f rfl ?_)
      | (guard_target =~ gW .skip; refine W.skip ?_)
      ))
  refine WU.stp rfl rfl rfl (stp_und hx6 rfl) ?_
  rintro _ w7 ⟨rfl, rfl⟩
  (repeat (first
      | (guard_target =~ gU _; first
          | (guard_target =~ gU []; first | refine WU.nilk ?_ )
          | refine WU.yld rfl rfl rfl (by first | (guard_target =~ gY (.assign _); exact yf rfl) | (guard_target =~ gY (.load _ _); first | exact za rfl rfl ) ) ?_
          )
      | (guard_target =~ gW (.seq _ _); refine W.seq ?_)
      | (guard_target =~ gW (.region _ _ false); refine W.reg ?_)
      ))
  refine WU.stp rfl rfl rfl (stp_und hy6 rfl) ?_
  rintro _ w7 ⟨rfl, rfl⟩
  (repeat (first
      | (guard_target =~ gU _; first
          | (guard_target =~ gU []; first | refine WU.nilk ?_ )
          | refine WU.yld rfl rfl rfl (by first | (guard_target =~ gY (.move _); exact ze rfl) | (guard_target =~ gY (.assign _); exact yf rfl) | (guard_target =~ gY (.load _ _); first | exact za rfl rfl ) | (guard_target =~ gY (.extract _ _); exact ys rfl rfl) | (guard_target =~ gY (.typeAssert _ _ _ true); first | exact yd rfl rfl (by first | rfl | assumption) ) ) ?_
          )
      | (guard_target =~ gW (.seq _ _); refine W.seq ?_)
      | (guard_target =~ gW (.region _ _ false); refine W.reg ?_)
      ))
  refine WU.stp rfl rfl rfl (stp_call rfl (c_Identical hx6 hy6)) ?_
  rintro _ w8 ⟨rfl, x8⟩
  rw [decide_eq_false hne]
  have xd := xc.trans x8
  have hx8 := hx.ext xd
  have hy8 := hy.ext xd
  (repeat (first
      | (guard_target =~ gU _; first
          | (guard_target =~ gU []; first | refine WU.nilk ?_ )
          | refine WU.yld rfl rfl rfl (by first | (guard_target =~ gY (.move _); exact ze rfl) | (guard_target =~ gY (.assign _); exact yf rfl) | (guard_target =~ gY (.load _ _); first | exact za rfl rfl ) | (guard_target =~ gY (.extract _ _); exact ys rfl rfl) | (guard_target =~ gY (.typeAssert _ _ _ true); first | exact yd rfl rfl (by first | rfl | assumption) ) | (guard_target =~ gY (.pick _ _ _); first | exact zu rfl rfl ) ) ?_
          | refine WU.skip rfl rfl rfl ?_)
      | (guard_target =~ gW (.seq _ _); refine W.seq ?_)
      | (guard_target =~ gW (.region _ _ false); refine W.reg ?_)
      | (guard_target =~ gW (.cond _ _ _); first | refine W.cond_f rfl ?_)
      | (guard_target =~ gW .skip; refine W.skip ?_)
      ))
  refine WU.stp rfl rfl rfl (stp_call rfl (c_isInterfacePtr hy8)) ?_
  rintro _ w9 ⟨rfl, rfl⟩
  (repeat (first
      | (guard_target =~ gU _; first
          | (guard_target =~ gU []; first | refine WU.nilk ?_ )
          | refine WU.yld rfl rfl rfl (by first | (guard_target =~ gY (.move _); exact ze rfl) | (guard_target =~ gY (.assign _); exact yf rfl) | (guard_target =~ gY (.fieldAddr _ _ _); exact yt rfl) | (guard_target =~ gY (.nilCheck _); first | exact zq rfl ) | (guard_target =~ gY (.extract _ _); exact ys rfl rfl) | (guard_target =~ gY (.typeAssert _ _ _ true); first | exact ye rfl rfl | exact yd rfl rfl (by first | rfl | assumption) ) | (guard_target =~ gY (.pick _ _ _); first | exact zu rfl rfl ) | (guard_target =~ gY (.binOp .neq _ _ _ _); first | exact zm rfl rfl ) ) ?_
          | refine WU.skip rfl rfl rfl ?_)
      | (guard_target =~ gW (.seq _ _); refine W.seq ?_)
      | (guard_target =~ gW (.region _ _ false); refine W.reg ?_)
      | (guard_target =~ gW (.cond _ _ _); first | refine W.cond_f rfl ?_)
      | (guard_target =~ gW .skip; refine W.skip ?_)
      ))
  cases hx8 with
  | chan hcx hex =>
  (repeat (first
      | (guard_target =~ gU _; first
          | (guard_target =~ gU []; first | refine WU.nilk ?_ )
          | refine WU.yld rfl rfl rfl (by first | (guard_target =~ gY (.load _ _); first | exact za rfl rfl ) | (guard_target =~ gY (.pick _ _ _); first | exact zv rfl rfl ) | (guard_target =~ gY (.binOp .eql _ _ _ _); first | exact yl rfl rfl ) ) ?_
          )
      ))
  cases hd : d == 0
  · (repeat (first
      | (guard_target =~ gU _; first
          | (guard_target =~ gU []; first | refine WU.nilk ?_ )
          | refine WU.yld rfl rfl rfl (by first | (guard_target =~ gY (.move _); exact ze rfl) | (guard_target =~ gY (.assign _); exact yf rfl) | (guard_target =~ gY (.pick _ _ _); first | exact zv rfl rfl ) | (guard_target =~ gY (.binOp .eql _ _ _ _); first | exact yo rfl rfl ) ) ?_
          )
      | (guard_target =~ gW (.seq _ _); refine W.seq ?_)
      | (guard_target =~ gW (.region _ _ false); refine W.reg ?_)
      | (guard_target =~ gW (.cond _ _ _); first | refine W.cond_t rfl ?_ | refine W.cond_f rfl ?_)
      | (guard_target =~ gW .skip; refine W.skip ?_)
      | (guard_target =~ gW .ret; refine W.ret ?_)
      | (guard_target =~ gT .ret; refine thn_ret ?_)
      ))
    exact fin2 (.inl rfl) rfl rfl rfl ⟨⟨_, rfl⟩, xd⟩
  · (repeat (first
      | (guard_target =~ gU _; first
          | (guard_target =~ gU []; first | refine WU.nilk ?_ )
          | refine WU.yld rfl rfl rfl (by first | (guard_target =~ gY (.move _); exact ze rfl) | (guard_target =~ gY (.assign _); exact yf rfl) | (guard_target =~ gY (.extract _ _); exact ys rfl rfl) | (guard_target =~ gY (.typeAssert _ _ _ true); first | exact yd rfl rfl (by first | rfl | assumption) ) ) ?_
          )
      | (guard_target =~ gW (.seq _ _); refine W.seq ?_)
      | (guard_target =~ gW (.region _ _ false); refine W.reg ?_)
      | (guard_target =~ gW (.cond _ _ _); first | refine W.cond_t rfl ?_ )
      ))
    refine W.regD [(0, .q), (1, .q), (2, .q), (3, .q), (4, .q), (5, .q), (6, .q), (7, .q), (8, .q), (9, .q), (10, .l), (11, .q)] (by kernel_rfl) (by kernel_rfl) rfl ?_
    intro wd yd' _
    (repeat (first
        | (guard_target =~ WD _ _ _ _ [] _ _ _; first | refine WD.nilk ?_ )
        | refine WD.yld rfl rfl rfl rfl (by first | (guard_target =~ gY (.move _); exact ze rfl) | (guard_target =~ gY (.pick _ _ _); first | exact zu rfl rfl ) ) ?_
        | refine WD.skip rfl rfl rfl rfl ?_))
    (repeat (first
        | (guard_target =~ gU _; first
            | (guard_target =~ gU []; first | refine WU.nilk ?_ )
            | refine WU.yld rfl rfl rfl (by first | (guard_target =~ gY (.move _); exact ze rfl) | (guard_target =~ gY (.assign _); exact yf rfl) | (guard_target =~ gY (.pick _ _ _); first | exact zv rfl rfl ) | (guard_target =~ gY (.binOp .eql _ _ _ _); first | exact yo rfl rfl ) ) ?_
            )
        | (guard_target =~ gW (.seq _ _); refine W.seq ?_)
        | (guard_target =~ gW (.region _ _ false); refine W.reg ?_)
        | (guard_target =~ gW (.cond _ _ _); first | refine W.cond_t rfl ?_ | refine W.cond_f rfl ?_)
        | (guard_target =~ gW .skip; refine W.skip ?_)
        | (guard_target =~ gW .ret; refine W.ret ?_)
        | (guard_target =~ gT .ret; refine thn_ret ?_)
        ))
    exact fin2 (.inl rfl) rfl rfl rfl ⟨⟨_, rfl⟩, xd.trans yd'⟩

set_option maxHeartbeats 2000000 in
theorem asg_chan {d d' : Int} {t t' : GT} {bx b bo : Nat} {w : World} (hx : Rep w (.iface 60 (.pointer (some ⟨bx, 0, none⟩))) (.chan d t)) (hy : Rep w (.iface 60 (.pointer (some ⟨b, 0, none⟩))) (.chan d' t')) (hO : opr w bo (.iface 60 (.pointer (some ⟨bx, 0, none⟩)))) (hne : ¬ GT.chan d t = .chan d' t') : Asg w bo (.iface 60 (.pointer (some ⟨b, 0, none⟩))) (d == 0 && decide (t = t')) := by
  refine W.enter (args := [.pointer (some ⟨bo, 0, none⟩), .pointer none, (.iface 60 (.pointer (some ⟨b, 0, none⟩))), .pointer none]) Tryz.func41 rfl Tryz.ntmps41 rfl rfl ?_
  (repeat (first
      | (guard_target =~ gW (.seq _ _); refine W.seq ?_)
      | (guard_target =~ gW (.region _ _ false); refine W.reg ?_)
      ))
  refine WU.stp rfl rfl rfl (by first | exact stp_box rfl rfl | exact stp_box1 rfl rfl) ?_
  rintro _ w1 ⟨b1, rfl, n1⟩
  refine WU.stp rfl rfl rfl (by first | exact stp_box rfl rfl | exact stp_box1 rfl rfl) ?_
  rintro _ w2 ⟨b2, rfl, n2⟩
  refine WU.stp rfl rfl rfl (by first | exact stp_box rfl rfl | exact stp_box1 rfl rfl) ?_
  rintro _ w3 ⟨b3, rfl, n3⟩
  refine WU.stp rfl rfl rfl (by first | exact stp_box rfl rfl | exact stp_box1 rfl rfl) ?_
  rintro _ w4 ⟨b4, rfl, n4⟩
  have xa : Ext w w4 := n1.ext.trans (n2.ext.trans (n3.ext.trans n4.ext))
  have hx4 := hx.ext xa
  have hy4 := hy.ext xa
  have hm1 := n1.num
  have hm2 := n2.num
  have hm3 := n3.num
  have hm4 := n4.num
  have hs1 := n1.size
  have hs2 := n2.size
  have hs3 := n3.size
  have ho := hO.ext' xa
  (repeat (first
      | (guard_target =~ gU _; first
          | (guard_target =~ gU []; first | refine WU.nilk ?_ )
          | refine WU.yld rfl rfl rfl (by first | (guard_target =~ gY (.assign _); exact yf rfl) | (guard_target =~ gY (.load _ _); first | exact za rfl rfl ) ) ?_
          )
      | (guard_target =~ gW (.seq _ _); refine W.seq ?_)
      | (guard_target =~ gW (.region _ _ false); refine W.reg ?_)
      ))
  refine WU.stp rfl rfl rfl (stp_call rfl (c_opvalid ho)) ?_
  rintro _ w5 ⟨rfl, rfl⟩
  (repeat (first
      | (guard_target =~ gU _; first
          | refine WU.yld rfl rfl rfl (by first | (guard_target =~ gY (.move _); exact ze rfl) | (guard_target =~ gY (.load _ _); first | exact za rfl rfl ) | (guard_target =~ gY (.unOp .not _ _); exact zs rfl) ) ?_
          )
      ))
  refine WU.stp rfl rfl rfl (stp_call rfl (c_isValid hy4)) ?_
  rintro _ w5 ⟨rfl, rfl⟩
  (repeat (first
      | (guard_target =~ gU _; first
          | (guard_target =~ gU []; first | refine WU.nilk ?_ )
          | refine WU.yld rfl rfl rfl (by first | (guard_target =~ gY (.load _ _); first | exact za rfl rfl ) | (guard_target =~ gY (.pick _ _ _); first | exact zu rfl rfl ) | (guard_target =~ gY (.unOp .not _ _); exact zs rfl) ) ?_
          )
      | (guard_target =~ gW (.seq _ _); refine W.seq ?_)
      | (guard_target =~ gW (.region _ _ false); refine W.reg ?_)
      | (guard_target =~ gW (.cond _ _ _); first | refine W.cond_f rfl ?_)
      | (guard_target =~ gW .skip; refine W.skip ?_)
      ))
  refine WU.stp rfl rfl rfl (stp_call rfl (c_optyp ho)) ?_
  rintro _ w5 ⟨rfl, rfl⟩
  refine WU.stp rfl rfl rfl (stp_call rfl (c_Unalias _ _ w4 (noT (.chan d t)).al)) ?_
  rintro _ w5 ⟨rfl, rfl⟩
  (repeat (first
      | (guard_target =~ gU _; first
          | (guard_target =~ gU []; first | refine WU.nilk ?_ )
          | refine WU.yld rfl rfl rfl (by first | (guard_target =~ gY (.assign _); exact yf rfl) | (guard_target =~ gY (.load _ _); first | exact za rfl rfl ) ) ?_
          )
      | (guard_target =~ gW (.seq _ _); refine W.seq ?_)
      | (guard_target =~ gW (.region _ _ false); refine W.reg ?_)
      ))
  refine WU.stp rfl rfl rfl (stp_call rfl (c_Unalias _ _ w4 (noT (.chan d' t')).al)) ?_
  rintro _ w5 ⟨rfl, rfl⟩
  refine WU.stp0 rfl rfl (stp_store_cell rfl rfl rfl rfl) ?_
  rintro _ w5 u5
  have xb : Ext w w5 := u5.ext xa (by omega)
  have hx5 := hx.ext xb
  have hy5 := hy.ext xb
  have k1 : Has w5 b1 _ := u5.keep inferInstance (by omega)
  have k2 : Has w5 b2 _ := u5.keep inferInstance (by omega)
  have k4 : Has w5 b4 _ := u5.keep inferInstance (by omega)
  (repeat (first
      | (guard_target =~ gU _; first
          | (guard_target =~ gU []; first | refine WU.nilk ?_ )
          | refine WU.yld rfl rfl rfl (by first | (guard_target =~ gY (.move _); exact ze rfl) | (guard_target =~ gY (.load _ _); first | exact za rfl rfl ) ) ?_
          )
      | (guard_target =~ gW (.seq _ _); refine W.seq ?_)
      | (guard_target =~ gW (.region _ _ false); refine W.reg ?_)
      ))
  refine WU.stp rfl rfl rfl (stp_call rfl (c_Identical hx5 hy5)) ?_
  rintro _ w6 ⟨rfl, x6⟩
  have xc := xb.trans x6
  have hx6 := hx.ext xc
  have hy6 := hy.ext xc
  rw [decide_eq_false hne]
  have itx := (noT (.chan d t)).itf
  have ity := (noT (.chan d' t')).itf
  have tpx := (noT (.chan d t)).tp
  have tpy := (noT (.chan d' t')).tp
  (repeat (first
      | (guard_target =~ gU _; first
          | (guard_target =~ gU []; first | refine WU.nilk ?_ )
          | refine WU.yld rfl rfl rfl (by first | (guard_target =~ gY (.move _); exact ze rfl) ) ?_
          )
      | (guard_target =~ gW (.seq _ _); refine W.seq ?_)
      | (guard_target =~ gW (.region _ _ false); refine W.reg ?_)
      | (guard_target =~ gW (.cond _ _ _); first | refine W.cond_f rfl ?_)
      | (guard_target =~ gW .skip; refine W.skip ?_)
      ))
  refine WU.stp rfl rfl rfl (stp_und hx6 rfl) ?_
  rintro _ w7 ⟨rfl, rfl⟩
  (repeat (first
      | (guard_target =~ gU _; first
          | (guard_target =~ gU []; first | refine WU.nilk ?_ )
          | refine WU.yld rfl rfl rfl (by first | (guard_target =~ gY (.assign _); exact yf rfl) | (guard_target =~ gY (.load _ _); first | exact za rfl rfl ) ) ?_
          )
      | (guard_target =~ gW (.seq _ _); refine W.seq ?_)
      | (guard_target =~ gW (.region _ _ false); refine W.reg ?_)
      ))
  refine WU.stp rfl rfl rfl (stp_und hy6 rfl) ?_
  rintro _ w7 ⟨rfl, rfl⟩
  (repeat (first
      | (guard_target =~ gU _; first
          | (guard_target =~ gU []; first | refine WU.nilk ?_ )
          | refine WU.yld rfl rfl rfl (by first | (guard_target =~ gY (.move _); exact ze rfl) | (guard_target =~ gY (.assign _); exact yf rfl) | (guard_target =~ gY (.load _ _); first | exact za rfl rfl ) | (guard_target =~ gY (.extract _ _); exact ys rfl rfl) | (guard_target =~ gY (.typeAssert _ _ _ true); first | exact yd rfl rfl (by first | rfl | assumption) ) ) ?_
          )
      | (guard_target =~ gW (.seq _ _); refine W.seq ?_)
      | (guard_target =~ gW (.region _ _ false); refine W.reg ?_)
      ))
  refine WU.stp rfl rfl rfl (stp_call rfl (c_Identical hx6 hy6)) ?_
  rintro _ w8 ⟨rfl, x8⟩
  rw [decide_eq_false hne]
  have xd := xc.trans x8
  have hx8 := hx.ext xd
  have hy8 := hy.ext xd
  (repeat (first
      | (guard_target =~ gU _; first
          | (guard_target =~ gU []; first | refine WU.nilk ?_ )
          | refine WU.yld rfl rfl rfl (by first | (guard_target =~ gY (.move _); exact ze rfl) | (guard_target =~ gY (.assign _); exact yf rfl) | (guard_target =~ gY (.load _ _); first | exact za rfl rfl ) | (guard_target =~ gY (.extract _ _); exact ys rfl rfl) | (guard_target =~ gY (.typeAssert _ _ _ true); first | exact yd rfl rfl (by first | rfl | assumption) ) | (guard_target =~ gY (.pick _ _ _); first | exact zu rfl rfl ) ) ?_
          | refine WU.skip rfl rfl rfl ?_)
      | (guard_target =~ gW (.seq _ _); refine W.seq ?_)
      | (guard_target =~ gW (.region _ _ false); refine W.reg ?_)
      | (guard_target =~ gW (.cond _ _ _); first | refine W.cond_f rfl ?_)
      | (guard_target =~ gW .skip; refine W.skip ?_)
      ))
  refine WU.stp rfl rfl rfl (stp_call rfl (c_isInterfacePtr hy8)) ?_
  rintro _ w9 ⟨rfl, rfl⟩
  (repeat (first
      | (guard_target =~ gU _; first
          | (guard_target =~ gU []; first | refine WU.nilk ?_ )
          | refine WU.yld rfl rfl rfl (by first | (guard_target =~ gY (.move _); exact ze rfl) | (guard_target =~ gY (.assign _); exact yf rfl) | (guard_target =~ gY (.fieldAddr _ _ _); exact yt rfl) | (guard_target =~ gY (.nilCheck _); first | exact zq rfl ) | (guard_target =~ gY (.extract _ _); exact ys rfl rfl) | (guard_target =~ gY (.typeAssert _ _ _ true); first | exact ye rfl rfl | exact yd rfl rfl (by first | rfl | assumption) ) | (guard_target =~ gY (.pick _ _ _); first | exact zu rfl rfl ) | (guard_target =~ gY (.binOp .neq _ _ _ _); first | exact zm rfl rfl ) ) ?_
          | refine WU.skip rfl rfl rfl ?_)
      | (guard_target =~ gW (.seq _ _); refine W.seq ?_)
      | (guard_target =~ gW (.region _ _ false); refine W.reg ?_)
      | (guard_target =~ gW (.cond _ _ _); first | refine W.cond_f rfl ?_)
      | (guard_target =~ gW .skip; refine W.skip ?_)
      ))
  have hx9 := hx8
  have hy9 := hy8
  cases hx8 with
  | chan hcx hex =>
  cases hy8 with
  | chan hcy hey =>
  (repeat (first
      | (guard_target =~ gU _; first
          | (guard_target =~ gU []; first | refine WU.nilk ?_ )
          | refine WU.yld rfl rfl rfl (by first | (guard_target =~ gY (.load _ _); first | exact za rfl rfl ) | (guard_target =~ gY (.pick _ _ _); first | exact zv rfl rfl ) | (guard_target =~ gY (.binOp .eql _ _ _ _); first | exact yl rfl rfl ) ) ?_
          )
      ))
  cases hd : d == 0
  · (repeat (first
      | (guard_target =~ gU _; first
          | (guard_target =~ gU []; first | refine WU.nilk ?_ )
          | refine WU.yld rfl rfl rfl (by first | (guard_target =~ gY (.move _); exact ze rfl) | (guard_target =~ gY (.assign _); exact yf rfl) | (guard_target =~ gY (.pick _ _ _); first | exact zv rfl rfl ) | (guard_target =~ gY (.binOp .eql _ _ _ _); first | exact yo rfl rfl ) ) ?_
          )
      | (guard_target =~ gW (.seq _ _); refine W.seq ?_)
      | (guard_target =~ gW (.region _ _ false); refine W.reg ?_)
      | (guard_target =~ gW (.cond _ _ _); first | refine W.cond_t rfl ?_ | refine W.cond_f rfl ?_)
      | (guard_target =~ gW .skip; refine W.skip ?_)
      | (guard_target =~ gW .ret; refine W.ret ?_)
      | (guard_target =~ gT .ret; refine thn_ret ?_)
      ))
    exact fin2 (.inl rfl) rfl rfl rfl ⟨⟨_, rfl⟩, xd⟩
  · (repeat (first
      | (guard_target =~ gU _; first
          | (guard_target =~ gU []; first | refine WU.nilk ?_ )
          | refine WU.yld rfl rfl rfl (by first | (guard_target =~ gY (.move _); exact ze rfl) | (guard_target =~ gY (.assign _); exact yf rfl) | (guard_target =~ gY (.extract _ _); exact ys rfl rfl) | (guard_target =~ gY (.typeAssert _ _ _ true); first | exact ye rfl rfl ) ) ?_
          )
      | (guard_target =~ gW (.seq _ _); refine W.seq ?_)
      | (guard_target =~ gW (.region _ _ false); refine W.reg ?_)
      | (guard_target =~ gW (.cond _ _ _); first | refine W.cond_t rfl ?_ )
      ))
    refine W.regD [(0, .q), (1, .q), (2, .q), (3, .q), (4, .q), (5, .q), (6, .q), (7, .q), (8, .q), (9, .q), (10, .l), (11, .q)] (by kernel_rfl) (by kernel_rfl) rfl ?_
    intro wd yd' _
    (repeat (first
        | refine WD.yld rfl rfl rfl rfl (by first | (guard_target =~ gY (.move _); exact ze rfl) | (guard_target =~ gY (.load _ _); first | exact za rfl rfl ) | (guard_target =~ gY (.fieldAddr _ _ _); exact yt rfl) | (guard_target =~ gY (.nilCheck _); first | exact zq rfl ) ) ?_
        ))
    refine WD.stp rfl rfl rfl rfl (stp_call rfl (c_Identical (hex.ext yd') (hey.ext yd'))) ?_
    rintro _ we ⟨rfl, xe⟩
    refine ⟨by first | assumption | exact Ext.rfl' _ | infer_instance, ?_⟩
    (repeat (first
        | (guard_target =~ WD _ _ _ _ [] _ _ _; first | refine WD.nilk ?_ )
        | refine WD.yld rfl rfl rfl rfl (by first | (guard_target =~ gY (.pick _ _ _); first | exact zv rfl rfl ) ) ?_
        ))
    have xf := xd.trans (yd'.trans xe)
    by_cases hte : t = t'
    · rw [decide_eq_true hte]
      (repeat (first
          | (guard_target =~ gU _; first
              | refine WU.yld rfl rfl rfl (by first | (guard_target =~ gY (.move _); exact ze rfl) ) ?_
              )
          | (guard_target =~ gW (.seq _ _); refine W.seq ?_)
          | (guard_target =~ gW (.region _ _ false); refine W.reg ?_)
          | (guard_target =~ gW (.cond _ _ _); first | refine W.cond_t rfl ?_ )
          ))
      refine WU.stp rfl rfl rfl (stp_call rfl (c_hasName (hx.ext xf))) ?_
      rintro _ wf ⟨rfl, rfl⟩
      (repeat (first
          | (guard_target =~ gU _; first
              | (guard_target =~ gU []; first | refine WU.nilk ?_ )
              | refine WU.yld rfl rfl rfl (by first | (guard_target =~ gY (.move _); exact ze rfl) | (guard_target =~ gY (.assign _); exact yf rfl) | (guard_target =~ gY (.load _ _); first | exact za rfl rfl ) | (guard_target =~ gY (.pick _ _ _); first | exact zv rfl rfl ) | (guard_target =~ gY (.unOp .not _ _); exact zs rfl) ) ?_
              | refine WU.skip rfl rfl rfl ?_)
          | (guard_target =~ gW .ret; refine W.ret ?_)
          | (guard_target =~ gT .ret; refine thn_ret ?_)
          ))
      exact fin2 (.inl rfl) rfl rfl rfl ⟨⟨_, rfl⟩, xf⟩
    · rw [decide_eq_false hte]
      (repeat (first
          | (guard_target =~ gU _; first
              | (guard_target =~ gU []; first | refine WU.nilk ?_ )
              | refine WU.yld rfl rfl rfl (by first | (guard_target =~ gY (.move _); exact ze rfl) | (guard_target =~ gY (.assign _); exact yf rfl) | (guard_target =~ gY (.pick _ _ _); first | exact zv rfl rfl ) | (guard_target =~ gY (.binOp .eql _ _ _ _); first | exact yo rfl rfl ) ) ?_
              )
          | (guard_target =~ gW (.seq _ _); refine W.seq ?_)
          | (guard_target =~ gW (.region _ _ false); refine W.reg ?_)
          | (guard_target =~ gW (.cond _ _ _); first | refine W.cond_t rfl ?_ | refine W.cond_f rfl ?_)
          | (guard_target =~ gW .skip; refine W.skip ?_)
          | (guard_target =~ gW .ret; refine W.ret ?_)
          | (guard_target =~ gT .ret; refine thn_ret ?_)
          ))
      exact fin2 (.inl rfl) rfl rfl rfl ⟨⟨_, rfl⟩, xf⟩

theorem c_assignableTo {x y : GT} {vx vy : Value} {bo : Nat} {w : World} (hx : Rep w vx x) (hy : Rep w vy y) (hO : opr w bo vx) : Asg w bo vy (asgG x y) := by
  obtain ⟨bx, rfl, _⟩ := hx.shape
  obtain ⟨b, rfl, _⟩ := hy.shape
  unfold asgG
  by_cases heq : x = y
  · rw [decide_eq_true heq, Bool.true_or]; exact asg_same hx hy hO heq
  rw [decide_eq_false heq, Bool.false_or]
  cases x with
  | chan d t =>
    cases y with
    | chan d' t' => exact asg_chan hx hy hO heq
    | _ => exact asg_chan_no hx hy hO heq rfl
  | _ => exact asg_no hx hy hO heq rfl

theorem c_AssignableTo {x y : GT} {vx vy : Value} {w : World} (hx : Rep w vx x) (hy : Rep w vy y) :
    Calls Tryz.prog 28 #[vx, vy] w (Ret fun r w' => r = .bool (asgG x y) ∧ Ext w w') := by
  obtain ⟨bx, rfl, _⟩ := hx.shape
  obtain ⟨b, rfl, _⟩ := hy.shape
  refine W.enter (args := [.iface (tagOf x) (.pointer (some ⟨bx, 0, none⟩)), .iface (tagOf y) (.pointer (some ⟨b, 0, none⟩))]) Tryz.func28 rfl Tryz.ntmps28 rfl rfl ?_
  (repeat (first
      | (guard_target =~ gU _; first
          | (guard_target =~ gU []; first | refine WU.nilk ?_ )
          | refine WU.yld rfl rfl rfl (by first | (guard_target =~ gY (.move _); exact ze rfl) | (guard_target =~ gY (.assign _); exact yf rfl) | (guard_target =~ gY (.build _ _); exact yg rfl rfl) ) ?_
          )
      | (guard_target =~ gW (.seq _ _); refine W.seq ?_)
      | (guard_target =~ gW (.region _ _ false); refine W.reg ?_)
      ))
  refine WU.stp rfl rfl rfl stp_alloc ?_
  rintro _ w1 ⟨b1, rfl, n1⟩
  refine WU.stp0 rfl rfl (stp_store_whole rfl rfl rfl rfl) ?_
  rintro _ w2 u2
  have n2 := u2.ofNew n1
  (repeat (first
      | (guard_target =~ gU _; first
          | (guard_target =~ gU []; first | refine WU.nilk ?_ )
          | refine WU.yld rfl rfl rfl (by first | (guard_target =~ gY (.move _); exact ze rfl) ) ?_
          )
      | (guard_target =~ gW (.seq _ _); refine W.seq ?_)
      | (guard_target =~ gW (.region _ _ false); refine W.reg ?_)
      ))
  refine WU.stp rfl rfl rfl (stp_call rfl (c_assignableTo (hx.ext n2.ext) (hy.ext n2.ext) n2.has)) ?_
  rintro _ w3 ⟨⟨c, rfl⟩, x3⟩
  (repeat (first
      | (guard_target =~ gU _; first
          | (guard_target =~ gU []; first | refine WU.nilk ?_ )
          | refine WU.yld rfl rfl rfl (by first | (guard_target =~ gY (.move _); exact ze rfl) | (guard_target =~ gY (.assign _); exact yf rfl) | (guard_target =~ gY (.extract _ _); exact ys rfl rfl) ) ?_
          )
      | (guard_target =~ gW (.seq _ _); refine W.seq ?_)
      | (guard_target =~ gW (.region _ _ false); refine W.reg ?_)
      | (guard_target =~ gW .ret; refine W.ret ?_)
      ))
  exact fin1 (.inl rfl) rfl rfl ⟨rfl, n2.ext.trans x3⟩

theorem c_AssignablePlain {x y : Nat} {t u : PT} {w : World} {k n k' n' : Int} {a a' : Option Addr} {l c l' c' : Nat} {nm tg nm' tg' : ByteArray} {em em' : Bool}
    (hx : DRep w x t k n (.slice a l c)) (hy : DRep w y u k' n' (.slice a' l' c')) (ht : t.ok) (hu : u.ok) :
    Calls Tryz.prog 16 #[tyv k n 0 false (.slice a l c) nm tg em, tyv k' n' 0 false (.slice a' l' c') nm' tg' em'] w
      (Ret fun r w' => r = .bool (asgG t.gt u.gt) ∧ Ext w w') := by
  refine W.enter (args := [tyv k n 0 false (.slice a l c) nm tg em, tyv k' n' 0 false (.slice a' l' c') nm' tg' em']) Tryz.func16 rfl Tryz.ntmps16 rfl rfl ?_
  (repeat (first
      | (guard_target =~ gW (.seq _ _); refine W.seq ?_)
      | (guard_target =~ gW (.region _ _ false); refine W.reg ?_)
      ))
  refine WU.stp rfl rfl rfl (by first | exact stp_box rfl rfl | exact stp_box1 rfl rfl) ?_
  rintro _ w1 ⟨b1, rfl, n1⟩
  refine WU.stp rfl rfl rfl (by first | exact stp_box rfl rfl | exact stp_box1 rfl rfl) ?_
  rintro _ w2 ⟨b2, rfl, n2⟩
  (repeat (first
      | (guard_target =~ gU _; first
          | (guard_target =~ gU []; first | refine WU.nilk ?_ )
          | refine WU.yld rfl rfl rfl (by first | (guard_target =~ gY (.assign _); exact yf rfl) ) ?_
          )
      | (guard_target =~ gW (.seq _ _); refine W.seq ?_)
      ))
  have x2 := n1.ext.trans n2.ext
  refine W.regD [(0, .q), (2, .q), (1, .l), (3, .l), (4, .l), (5, .q)] (by kernel_rfl) (by kernel_rfl) rfl ?_
  intro w3 x3 _
  (repeat (first
      | refine WD.yld rfl rfl rfl rfl (by first | (guard_target =~ gY (.load _ _); first | exact zb rfl) ) ?_
      ))
  refine WD.stp rfl rfl rfl rfl (stp_call rfl (c_plain hx nm tg em w3 (x2.trans x3) ht)) ?_
  rintro _ w4 ⟨hr, x4⟩
  refine ⟨by first | assumption | exact Ext.rfl' _ | infer_instance, ?_⟩
  skip
  refine WD.stp rfl rfl rfl rfl (stp_call rfl (c_plain hy nm' tg' em' w4 (x2.trans (x3.trans x4)) hu)) ?_
  rintro _ w5 ⟨hs, x5⟩
  refine ⟨by first | assumption | exact Ext.rfl' _ | infer_instance, ?_⟩
  refine WD.stp rfl rfl rfl rfl (stp_call rfl (c_AssignableTo (hr.ext x5) hs)) ?_
  rintro _ w6 ⟨rfl, x6⟩
  refine ⟨by first | assumption | exact Ext.rfl' _ | infer_instance, ?_⟩
  (repeat (first
      | (guard_target =~ WD _ _ _ _ [] _ _ _; first | refine WD.nilk ?_ )
      | refine WD.yld rfl rfl rfl rfl (by first | (guard_target =~ gY (.assign _); exact yf rfl) ) ?_
      ))
  (repeat (first
      | (guard_target =~ gW .ret; refine W.ret ?_)
      ))
  exact fin1 (.inl rfl) rfl rfl ⟨rfl, x2.trans (x3.trans (x4.trans (x5.trans x6)))⟩
end Go.Proofs.YtnmodbmaokilaaaGreatDoor

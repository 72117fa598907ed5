/- The walk kit, part b: single operations. -/
import Derived.Test.YtnmodbmaokilaaaGreatDoorKa
import Derived.LaidEqlPtr
namespace Go.Kd

/-! ### Facts on the program's tables -/
class Und (P : Program) (t : TypeId) (d : outParam TypeDesc) : Prop where
  at_ : P.underlying t = some d
/-- Field f of struct type t lies at off; of more than no cells. -/
class Fld (P : Program) (t : TypeId) (f : Nat) (off : outParam Nat) : Prop where
  at_ : ∃ fs fd i, P.underlying t = some (.struct fs) ∧ fs[f]? = some fd ∧ fd.offset = off ∧ P.info? fd.type = some i ∧ i.size ≠ 0
/-- t is a type of one cell, no struct, no array. -/
class Scl (P : Program) (t : TypeId) : Prop where
  at_ : ∃ d i, P.underlying t = some d ∧ (match d with | .struct _ => False | .array _ _ => False | _ => True) ∧ P.info? t = some i ∧ i.size = 1
/-- t is a struct or an array of n cells. -/
class Agt (P : Program) (t : TypeId) (n : outParam Nat) : Prop where
  at_ : ∃ d i, P.underlying t = some d ∧ (match d with | .struct _ => True | .array _ _ => True | _ => False) ∧ P.info? t = some i ∧ i.size = n
/-- A function with a Go body. -/
class Fun (P : Program) (k : FuncId) : Prop where
  at_ : ∃ fn, P.funcs[k]? = some fn ∧ (fn.name == "runtime.NumGoroutine") = false ∧ fn.body.isNone = false
/-- The method of a pointer type: a pointer receiver. -/
class Mth (P : Program) (t : TypeId) (name : String) (k : outParam FuncId) : Prop where
  at_ : (∃ e, P.underlying t = some (.pointer e)) ∧ ∃ i m, P.info? t = some i ∧ i.methods.find? (·.name == name) = some m ∧ m.path = #[] ∧ m.func = some (k, true)

/-! ### What is known of the operands -/
def Ag (ρ : Operand → Value) (e : Env) : Prop := ∀ x v, ev e x = some v → ρ x = v
theorem Fr.ag {n : Nat} {D : List Deferred} {e : Env} {a : Act} (h : Fr n D e a) : Ag a.eval e := fun _ _ hx => h.eval hx

/-- In this and every later world the operation yields v. -/
structure Yld (P : Program) (e : Env) (o : Oper) (v : Value) (w : World) : Prop where
  out : ∀ ρ, Ag ρ e → ∀ w', Ext w w' → (execOp ρ o).run P w' = .ok (.value v) w'

/-- What the operation comes to in this world. -/
structure Stp (P : Program) (e : Env) (o : Oper) (w : World) (R : Value → World → Prop) : Prop where
  out : ∀ ρ, Ag ρ e → match (execOp ρ o).run P w with
    | .ok (.value v) w' => R v w'
    | .ok .skip w' => R undef w'
    | .ok (.enter f args) w' => Calls P f args w' (fun x w'' => ∃ v, x = .returned v ∧ R v w'')
    | _ => False

theorem Yld.stp {P : Program} {e : Env} {o : Oper} {v : Value} {w : World} (h : Yld P e o v w) : Stp P e o w (fun v' w' => v' = v ∧ w' = w) := ⟨fun ρ hρ => by
  rw [h.out ρ hρ w (Ext.rfl' w)]
  exact ⟨rfl, rfl⟩⟩

def wb : Value → Bool → Option Bool
  | .bool true, true => some true
  | .bool true, false => some false
  | .bool false, true => some false
  | .bool false, false => some true
  | .tuple _, _ => some false
  | _, _ => none

/-- Is the operation carried out? -/
def wn (ops : List Oper) (e : Env) : Option (Nat × Bool) → Option Bool
  | none => some true
  | some (j, b) => match ops[j]? with
    | some o => match o.dst with
      | some d => match lk e d with
        | some u => wb u b
        | none => none
      | none => none
    | none => none

theorem wn_spec {ops : List Oper} {e : Env} {o : Oper} {r : Bool} (h : wn ops e o.guard = some r) {n : Nat} {D : List Deferred} {a : Act} (ha : Fr n D e a) :
    Region.wanted o (yielded ops.toArray a.tmps) = r := by
  unfold Region.wanted
  cases hg : o.guard with
  | none => rw [hg] at h; simpa [wn] using h
  | some g =>
    obtain ⟨j, b⟩ := g
    rw [hg] at h
    simp only [wn] at h
    cases hj : ops[j]? with
    | none => simp [hj] at h
    | some oj =>
      simp only [hj] at h
      cases hd : oj.dst with
      | none => simp [hd] at h
      | some d =>
        simp only [hd] at h
        cases hl : lk e d with
        | none => simp [hl] at h
        | some u =>
          simp only [hl] at h
          have hu := ha.get d u hl
          have hy : yielded ops.toArray a.tmps j = match u with | .bool c => some c | _ => none := by
            unfold yielded
            simp only [List.getElem?_toArray, hj, Option.bind_some, hd, hu]
            cases u <;> rfl
          simp only [hy]
          cases u with
          | bool c => cases c <;> cases b <;> (simp only [wb, Option.some.injEq] at h; subst h; rfl)
          | tuple t => simpa [wb] using h
          | _ => simp [wb] at h

/-! ### Undrawn regions -/
structure WU (P : Program) (n : Nat) (ops : List Oper) (Q : Post) (l : List Oper) (D : List Deferred) (e : Env) (w : World) : Prop where
  out : ∀ a, Fr n D e a → wpList P ops.toArray (post n Q) l a w
/-- Drawn ones: 'L' the order. -/
structure WD (P : Program) (n : Nat) (ops : List Oper) (Q : Post) (L : List (Nat × Kn)) (D : List Deferred) (e : Env) (w : World) : Prop where
  out : ∀ a, Fr n D e a → wpL P ops.toArray (post n Q) (pick ops.toArray L) a w

section
variable {P : Program} {n : Nat} {ops : List Oper} {Q : Post} {D : List Deferred} {e : Env} {w : World}

theorem W.reg {id : Nat} {l : List Oper} (h : WU P n l Q l D e w) : W P n (.region id l.toArray false) Q D e w := ⟨fun a ha => wp_region_lit (h.out a ha)⟩
theorem W.regD [Mixed P] {id : Nat} {l : List Oper} (L : List (Nat × Kn)) (hs : Region.noSelect l.toArray = true) (hL : ordOk .any l.toArray L (Array.replicate l.length false) = true)
    (hlen : L.length = l.length) (h : ∀ w', Ext w w' → (w'.heap = w.heap) → WD P n l Q L D e w') : W P n (.region id l.toArray true) Q D e w :=
  W.regionD L hs hL hlen fun w' x y => (h w' x y).out

theorem WU.nil (h : Q .normal D e w) : WU P n ops Q [] D e w := ⟨fun _ ha => ⟨D, e, ha, h⟩⟩

theorem upon_of_stp {o : Oper} {a : Act} {R : Value → World → Prop} (ha : Fr n D e a) (h : Stp P e o w R) {K : Act → World → Prop} {Q' : Exit → Act → World → Prop}
    (hk : ∀ v w', R v w' → K (a.put o.dst v) w') : o.wp P a w K Q' := by
  have h1 := h.out a.eval ha.ag
  unfold Oper.wp
  generalize (execOp a.eval o).run P w = r at *
  cases r with
  | ok nx w' =>
    cases nx <;> simp only at h1 <;> simp only [Oper.upon]
    case value v => exact hk _ _ h1
    case skip => exact hk _ _ h1
    case enter f args =>
      refine h1.mono fun x w'' hx => ?_
      obtain ⟨v, rfl, hr⟩ := hx
      exact hk _ _ hr
  | halt x w' => exact h1.elim

theorem WU.stp {o : Oper} {rest : List Oper} {d : Nat} {R : Value → World → Prop} (hd : o.dst = some d) (hl : Nat.blt d n = true) (hg : wn ops e o.guard = some true) (h : Stp P e o w R)
    (hk : ∀ v w', R v w' → WU P n ops Q rest D ((d, v) :: e) w') : WU P n ops Q (o :: rest) D e w := ⟨fun a ha => by
  unfold wpList
  rw [wn_spec hg ha, if_pos rfl]
  exact .inl (upon_of_stp ha h fun v w' hr => (hk v w' hr).out _ (by rw [hd]; exact ha.put (by simpa [Nat.blt_eq] using hl) v))⟩
/-- an operation without a result -/
theorem WU.stp0 {o : Oper} {rest : List Oper} {R : Value → World → Prop} (hd : o.dst = none) (hg : wn ops e o.guard = some true) (h : Stp P e o w R)
    (hk : ∀ v w', R v w' → WU P n ops Q rest D e w') : WU P n ops Q (o :: rest) D e w := ⟨fun a ha => by
  unfold wpList
  rw [wn_spec hg ha, if_pos rfl]
  exact .inl (upon_of_stp ha h fun v w' hr => (hk v w' hr).out _ (by rw [hd]; exact ha))⟩

theorem WU.skip {o : Oper} {rest : List Oper} {d : Nat} (hd : o.dst = some d) (hl : Nat.blt d n = true) (hg : wn ops e o.guard = some false) (hk : WU P n ops Q rest D ((d, undef) :: e) w) :
    WU P n ops Q (o :: rest) D e w := ⟨fun a ha => by
  unfold wpList
  rw [wn_spec hg ha]
  simp only [Bool.false_eq_true, if_false]
  exact hk.out _ (by rw [hd]; exact ha.put (by simpa [Nat.blt_eq] using hl) _)⟩

theorem WU.yld {o : Oper} {rest : List Oper} {d : Nat} {v : Value} (hd : o.dst = some d) (hl : Nat.blt d n = true) (hg : wn ops e o.guard = some true) (h : Yld P e o v w)
    (hk : WU P n ops Q rest D ((d, v) :: e) w) : WU P n ops Q (o :: rest) D e w :=
  WU.stp hd hl hg h.stp fun _ _ ⟨h1, h2⟩ => by rw [h1, h2]; exact hk

theorem WU.nilk {K : List Deferred → Env → World → Prop} (h : K D e w) : WU P n ops (thn K Q) [] D e w := ⟨fun _ ha => ⟨D, e, ha, h⟩⟩

theorem WD.nil (h : Q .normal D e w) : WD P n ops Q [] D e w := ⟨fun _ ha => ⟨D, e, ha, h⟩⟩

theorem WD.nilk {K : List Deferred → Env → World → Prop} (h : K D e w) : WD P n ops (thn K Q) [] D e w := ⟨fun _ ha => ⟨D, e, ha, h⟩⟩

theorem WD.yld {i : Nat} {b : Kn} {o : Oper} {r : List (Nat × Kn)} {d : Nat} {v : Value} (hi : ops[i]? = some o) (hd : o.dst = some d) (hl : Nat.blt d n = true) (hg : wn ops e o.guard = some true) (h : Yld P e o v w)
    (hk : WD P n ops Q r D ((d, v) :: e) w) : WD P n ops Q ((i, b) :: r) D e w := ⟨fun a ha => by
  have hi' : ops.toArray[i]? = some o := by simpa using hi
  have hp : Fr n D ((d, v) :: e) (a.put o.dst v) := by rw [hd]; exact ha.put (by simpa [Nat.blt_eq] using hl) v
  simp only [pick, hi', Option.getD_some]
  cases b with
  | q => exact ⟨v, .inl ⟨wn_spec hg ha, fun w' hx => h.out _ ha.ag w' hx⟩, hk.out _ hp⟩
  | l =>
    simp only [wpL]
    rw [wn_spec hg ha, if_pos rfl]
    exact upon_of_stp ha h.stp fun v' w' ⟨h1, h2⟩ => by rw [h1, h2]; exact ⟨Ext.rfl' w, hk.out _ hp⟩
  | z =>
    simp only [wpL]
    rw [wn_spec hg ha, if_pos rfl]
    exact upon_of_stp ha h.stp fun v' w' ⟨h1, h2⟩ => by rw [h1, h2]; exact hk.out _ hp⟩

theorem WD.skip {i : Nat} {b : Kn} {o : Oper} {r : List (Nat × Kn)} {d : Nat} (hi : ops[i]? = some o) (hd : o.dst = some d) (hl : Nat.blt d n = true) (hg : wn ops e o.guard = some false)
    (hk : WD P n ops Q r D ((d, undef) :: e) w) : WD P n ops Q ((i, b) :: r) D e w := ⟨fun a ha => by
  have hi' : ops.toArray[i]? = some o := by simpa using hi
  have hp : Fr n D ((d, undef) :: e) (a.put o.dst undef) := by rw [hd]; exact ha.put (by simpa [Nat.blt_eq] using hl) _
  simp only [pick, hi', Option.getD_some]
  cases b with
  | q => exact ⟨undef, .inr ⟨wn_spec hg ha, rfl⟩, hk.out _ hp⟩
  | l =>
    simp only [wpL]
    rw [wn_spec hg ha]
    simp only [Bool.false_eq_true, if_false]
    exact hk.out _ hp
  | z =>
    simp only [wpL]
    rw [wn_spec hg ha]
    simp only [Bool.false_eq_true, if_false]
    exact hk.out _ hp⟩

theorem WD.stp {i : Nat} {o : Oper} {r : List (Nat × Kn)} {d : Nat} {R : Value → World → Prop} (hi : ops[i]? = some o) (hd : o.dst = some d) (hl : Nat.blt d n = true) (hg : wn ops e o.guard = some true) (h : Stp P e o w R)
    (hk : ∀ v w', R v w' → Ext w w' ∧ WD P n ops Q r D ((d, v) :: e) w') : WD P n ops Q ((i, .l) :: r) D e w := ⟨fun a ha => by
  have hi' : ops.toArray[i]? = some o := by simpa using hi
  simp only [pick, hi', Option.getD_some, wpL]
  rw [wn_spec hg ha, if_pos rfl]
  exact upon_of_stp ha h fun v w' hr => ⟨(hk v w' hr).1, (hk v w' hr).2.out _ (by rw [hd]; exact ha.put (by simpa [Nat.blt_eq] using hl) v)⟩⟩

/-- the last one, without a result (a store) -/
theorem WD.last0 {i : Nat} {o : Oper} {r : List (Nat × Kn)} {R : Value → World → Prop} (hi : ops[i]? = some o) (hd : o.dst = none) (hg : wn ops e o.guard = some true) (h : Stp P e o w R)
    (hk : ∀ v w', R v w' → WD P n ops Q r D e w') : WD P n ops Q ((i, .z) :: r) D e w := ⟨fun a ha => by
  have hi' : ops.toArray[i]? = some o := by simpa using hi
  simp only [pick, hi', Option.getD_some, wpL]
  rw [wn_spec hg ha, if_pos rfl]
  exact upon_of_stp ha h fun v w' hr => (hk v w' hr).out _ (by rw [hd]; exact ha)⟩
theorem WD.last {i : Nat} {o : Oper} {r : List (Nat × Kn)} {d : Nat} {R : Value → World → Prop} (hi : ops[i]? = some o) (hd : o.dst = some d) (hl : Nat.blt d n = true) (hg : wn ops e o.guard = some true) (h : Stp P e o w R)
    (hk : ∀ v w', R v w' → WD P n ops Q r D ((d, v) :: e) w') : WD P n ops Q ((i, .z) :: r) D e w := ⟨fun a ha => by
  have hi' : ops.toArray[i]? = some o := by simpa using hi
  simp only [pick, hi', Option.getD_some, wpL]
  rw [wn_spec hg ha, if_pos rfl]
  exact upon_of_stp ha h fun v w' hr => (hk v w' hr).out _ (by rw [hd]; exact ha.put (by simpa [Nat.blt_eq] using hl) v)⟩
end
end Go.Kd

/- The walk kit, part a: sparse frames, weakest conditions for code and for regions (also those that draw their order). -/
import Derived.WalkKit
import Derived.Deep.Quiet
namespace Go.Kd

/-- What is known of the slots of a frame. -/
abbrev Env := List (Nat × Value)

def lk : Env → Nat → Option Value
  | [], _ => none
  | (j, v) :: r, i => match Nat.beq j i with
    | true => some v
    | false => lk r i

theorem lk_cons (j : Nat) (v : Value) (r : Env) (i : Nat) : lk ((j, v) :: r) i = if j = i then some v else lk r i := by
  by_cases h : j = i
  · subst h; simp [lk, Nat.beq_refl]
  · have : Nat.beq j i = false := by
      cases hb : Nat.beq j i
      · rfl
      · exact absurd (Nat.eq_of_beq_eq_true hb) h
    simp [lk, this, h]

def ev (e : Env) : Operand → Option Value
  | .tmp t => lk e t
  | .const v => some v
  | .global g => some (.pointer (some ⟨g, 0, none⟩))
  | .func f => some (.func (.func f) #[] #[])

/-- The frame holds what is known. -/
structure Fr (n : Nat) (D : List Deferred) (e : Env) (a : Act) : Prop where
  size : a.tmps.size = n
  defers : a.defers = D
  get : ∀ i v, lk e i = some v → a.tmps[i]? = some v

theorem Fr.eval {n : Nat} {D : List Deferred} {e : Env} {a : Act} (h : Fr n D e a) {x : Operand} {v : Value} (hx : ev e x = some v) : a.eval x = v := by
  cases x with
  | tmp t => have := h.get t v hx; simp [Act.eval, this]
  | const u => simpa [ev, Act.eval] using hx
  | global g => simpa [ev, Act.eval] using hx
  | func f => simpa [ev, Act.eval] using hx

theorem Fr.put {n : Nat} {D : List Deferred} {e : Env} {a : Act} (h : Fr n D e a) {d : Nat} (hd : d < n) (v : Value) : Fr n D ((d, v) :: e) (a.put (some d) v) := by
  refine ⟨by simp [Act.put, h.size], by simp [Act.put, h.defers], fun i u hi => ?_⟩
  rw [lk_cons] at hi
  split at hi
  · rename_i hdi; subst hdi
    have : d < a.tmps.size := by rw [h.size]; exact hd
    simp only [Option.some.injEq] at hi
    simp [Act.put, this, hi]
  · rename_i hdi
    simp only [Act.put]
    rw [Array.getElem?_setIfInBounds_ne hdi]
    exact h.get i u hi

/-- Fewer things known. -/
theorem Fr.sub {n : Nat} {D : List Deferred} {e e' : Env} {a : Act} (h : Fr n D e a) (hs : ∀ i v, lk e' i = some v → lk e i = some v) : Fr n D e' a :=
  ⟨h.size, h.defers, fun i v hi => h.get i v (hs i v hi)⟩

abbrev Post := Exit → List Deferred → Env → World → Prop

/-- No panic, no lack of room. -/
def post (n : Nat) (Q : Post) : Exit → Act → World → Prop
  | .panic _, _, _ => False
  | .outgrown, _, _ => False
  | x, a, w => ∃ D e, Fr n D e a ∧ Q x D e w

structure W (P : Program) (n : Nat) (c : Code) (Q : Post) (D : List Deferred) (e : Env) (w : World) : Prop where
  out : ∀ a, Fr n D e a → c.wp P (post n Q) a w

def thn (K : List Deferred → Env → World → Prop) (Q : Post) : Post
  | .normal, D, e, w => K D e w
  | x, D, e, w => Q x D e w
def inb (id : Nat) (Q : Post) : Post
  | .exit id', D, e, w => match Nat.beq id' id with
    | true => Q .normal D e w
    | false => Q (.exit id') D e w
  | x, D, e, w => Q x D e w

section
variable {P : Program} {n : Nat} {Q Q' : Post} {D : List Deferred} {e : Env} {w : World}

theorem W.mono {c : Code} (h : W P n c Q D e w) (hq : ∀ x D e w, Q x D e w → Q' x D e w) : W P n c Q' D e w := ⟨fun a ha =>
  wp_mono (h.out a ha) fun x a' w' hx => by
    cases x <;> first
      | exact hx
      | (obtain ⟨D', e', h1, h2⟩ := hx; exact ⟨D', e', h1, hq _ _ _ _ h2⟩)⟩

theorem W.sub {c : Code} {e' : Env} (h : W P n c Q D e' w) (hs : ∀ i v, lk e' i = some v → lk e i = some v) : W P n c Q D e w := ⟨fun a ha => h.out a (ha.sub hs)⟩

theorem W.seq {x y : Code} (h : W P n x (thn (W P n y Q) Q) D e w) : W P n (.seq x y) Q D e w := ⟨fun a ha =>
  wp_seq (wp_mono (h.out a ha) fun x a' w' hx => by
    cases x <;> first
      | exact hx
      | (obtain ⟨D', e', h1, h2⟩ := hx; exact h2.out a' h1))⟩

theorem W.skip (h : Q .normal D e w) : W P n .skip Q D e w := ⟨fun _ ha => wp_skip ⟨D, e, ha, h⟩⟩
theorem W.label {l : Nat} (h : Q .normal D e w) : W P n (.label l) Q D e w := ⟨fun _ ha => wp_label ⟨D, e, ha, h⟩⟩
theorem W.exit {id : Nat} (h : Q (.exit id) D e w) : W P n (.exit id) Q D e w := ⟨fun _ ha => wp_exit ⟨D, e, ha, h⟩⟩
theorem W.ret (h : Q .ret D e w) : W P n .ret Q D e w := ⟨fun _ ha => wp_ret ⟨D, e, ha, h⟩⟩

theorem W.block {id : Nat} {c : Code} (h : W P n c (inb id Q) D e w) : W P n (.block id c) Q D e w := ⟨fun a ha =>
  wp_block (wp_mono (h.out a ha) fun x a' w' hx => by
    cases x with
    | exit id' =>
      obtain ⟨D', e', h1, h2⟩ := hx
      simp only [inb] at h2
      by_cases hid : id' = id
      · subst hid
        simp only [Nat.beq_refl] at h2
        simp only [Exit.inBlock, if_true]
        exact ⟨D', e', h1, h2⟩
      · have : Nat.beq id' id = false := by
          cases hb : Nat.beq id' id
          · rfl
          · exact absurd (Nat.eq_of_beq_eq_true hb) hid
        simp only [this] at h2
        simp only [Exit.inBlock, hid, if_false]
        exact ⟨D', e', h1, h2⟩
    | _ => exact hx)⟩

theorem W.cond {c : Operand} {x y : Code} {t : Bool} (hc : ev e c = some (.bool t)) (ht : t = true → W P n x Q D e w) (hf : t = false → W P n y Q D e w) :
    W P n (.cond c x y) Q D e w := ⟨fun a ha =>
  wp_cond_split (ha.eval hc) (fun h => (ht h).out a ha) (fun h => (hf h).out a ha)⟩
theorem W.cond_t {c : Operand} {x y : Code} (hc : ev e c = some (.bool true)) (h : W P n x Q D e w) : W P n (.cond c x y) Q D e w :=
  W.cond hc (fun _ => h) (fun h => by cases h)
theorem W.cond_f {c : Operand} {x y : Code} (hc : ev e c = some (.bool false)) (h : W P n y Q D e w) : W P n (.cond c x y) Q D e w :=
  W.cond hc (fun h => by cases h) (fun _ => h)

theorem lift_exit {K : List Deferred → Env → World → Prop} {id : Nat} {a : Act} {w : World} (h : post n (thn K Q) (.exit id) a w) : post n Q (.exit id) a w := h
theorem lift_goto {K : List Deferred → Env → World → Prop} {l : Nat} {a : Act} {w : World} (h : post n (thn K Q) (.goto l) a w) : post n Q (.goto l) a w := h
theorem lift_ret {K : List Deferred → Env → World → Prop} {a : Act} {w : World} (h : post n (thn K Q) .ret a w) : post n Q .ret a w := h

/-- A loop: what is known at a round's head is said by a ghost state. -/
theorem W.loop {c : Code} {σ : Type} (E : σ → Env) (I : σ → List Deferred → World → Prop) (m : σ → Nat) (s0 : σ)
    (h0 : I s0 D w) (hs : ∀ i v, lk (E s0) i = some v → lk e i = some v)
    (round : ∀ s D w, I s D w → W P n c (thn (fun D' e' w' => ∃ s', m s' < m s ∧ I s' D' w' ∧ ∀ i v, lk (E s') i = some v → lk e' i = some v) Q) D (E s) w) :
    W P n (.loop c) Q D e w := by
  refine ⟨fun a ha b k cs => ?_⟩
  have key : ∀ j s D w a, m s ≤ j → I s D w → Fr n D (E s) a →
      ∃ x a' w', post n Q x a' w' ∧ Arrives P (lone (b.at a (.code c :: .inLoop c :: k)) cs w) b k cs x a' w' := by
    intro j
    induction j with
    | zero =>
      intro s D w a hm hI hf
      obtain ⟨x, a1, w1, hq, harr⟩ := (round s D w hI).out a hf b (.inLoop c :: k) cs
      cases x with
      | normal => obtain ⟨_, _, _, s', hlt, _⟩ := hq; omega
      | exit id => exact ⟨_, a1, w1, lift_exit hq, .pass (x := .inLoop c) rfl (fun _ _ => .inl (by simp)) harr⟩
      | goto l => exact ⟨_, a1, w1, lift_goto hq, .pass (x := .inLoop c) rfl (fun _ _ => .inl (by simp)) harr⟩
      | ret => exact ⟨_, a1, w1, lift_ret hq, .pass (x := .inLoop c) rfl (fun _ _ => .inl (by simp)) harr⟩
      | panic ch => exact hq.elim
      | outgrown => exact hq.elim
    | succ j ih =>
      intro s D w a hm hI hf
      obtain ⟨x, a1, w1, hq, harr⟩ := (round s D w hI).out a hf b (.inLoop c :: k) cs
      cases x with
      | normal =>
        obtain ⟨D1, e1, hf1, s', hlt, hI', hsub⟩ := hq
        obtain ⟨x2, a2, w2, hq2, harr2⟩ := ih s' D1 w1 a1 (by omega) hI' (hf1.sub hsub)
        exact ⟨x2, a2, w2, hq2, .of_steps (Steps.trans harr (.one step_inLoop)) harr2⟩
      | exit id => exact ⟨_, a1, w1, lift_exit hq, .pass (x := .inLoop c) rfl (fun _ _ => .inl (by simp)) harr⟩
      | goto l => exact ⟨_, a1, w1, lift_goto hq, .pass (x := .inLoop c) rfl (fun _ _ => .inl (by simp)) harr⟩
      | ret => exact ⟨_, a1, w1, lift_ret hq, .pass (x := .inLoop c) rfl (fun _ _ => .inl (by simp)) harr⟩
      | panic ch => exact hq.elim
      | outgrown => exact hq.elim
  obtain ⟨x, a', w', hq, harr⟩ := key (m s0) s0 D w a (Nat.le_refl _) h0 (ha.sub hs)
  exact ⟨x, a', w', hq, .of_steps (.one step_loop) harr⟩

theorem W.scope {c : Code} (h : W P n c (fun x D e w => match x with | .goto _ => False | x => Q x D e w) D e w) : W P n (.scope c) Q D e w := ⟨fun a ha =>
  wp_scope_straight (wp_mono (h.out a ha) fun x a' w' hx => by
    cases x with
    | goto l => obtain ⟨_, _, _, h⟩ := hx; exact h.elim
    | _ => exact hx)⟩
end

section
variable {K : List Deferred → Env → World → Prop} {Q : Post} {D : List Deferred} {e : Env} {w : World}
theorem thn_normal (h : K D e w) : thn K Q .normal D e w := h
theorem thn_exit {id : Nat} (h : Q (.exit id) D e w) : thn K Q (.exit id) D e w := h
theorem thn_ret (h : Q .ret D e w) : thn K Q .ret D e w := h
theorem inb_normal {id : Nat} (h : Q .normal D e w) : inb id Q .normal D e w := h
theorem inb_ret {id : Nat} (h : Q .ret D e w) : inb id Q .ret D e w := h
theorem inb_hit {id : Nat} (h : Q .normal D e w) : inb id Q (.exit id) D e w := by
  simp only [inb, Nat.beq_refl]; exact h
theorem inb_miss {id id' : Nat} (hne : Nat.beq id' id = false) (h : Q (.exit id') D e w) : inb id Q (.exit id') D e w := by
  simp only [inb, hne]; exact h
end

/-! ### The regions -/

/-- old memory is as it was -/
class Ext (w : semiOutParam World) (w' : World) : Prop where
  below : RowKit.Below w.heap.size w w'

theorem Ext.rfl' (w : World) : Ext w w := ⟨RowKit.Below.refl _ _⟩
theorem Ext.trans {a b c : World} (h : Ext a b) (k : Ext b c) : Ext a c := ⟨h.below.trans (k.below.mono h.below.size)⟩
theorem Ext.size {a b : World} (h : Ext a b) : a.heap.size ≤ b.heap.size := h.below.size

/-- Block b is o. -/
class Has (w : World) (b : Nat) (o : outParam Obj) : Prop where
  at_ : w.heap[b]? = some o

theorem Has.lt {w : World} {b : Nat} {o : Obj} (h : Has w b o) : b < w.heap.size := (Array.getElem?_eq_some_iff.1 h.at_).1
theorem Has.ext' {w w' : World} {b : Nat} {o : Obj} (x : Ext w w') (h : Has w b o) : Has w' b o := ⟨(x.below.block b h.lt).trans h.at_⟩
instance Has.ext {w w' : World} {b : Nat} {o : Obj} [x : Ext w w'] [h : Has w b o] : Has w' b o := h.ext' x

section
variable {P : Program} {ops : Array Oper} {md : Region.Mode}

/-- All others come before operation i. -/
def lastB (md : Region.Mode) (ops : Array Oper) (i : Nat) : Bool :=
  match ops[i]? with
  | some o => (List.range ops.size).all fun j => j == i || o.after.any fun e => Region.binds md e && e.on == j
  | none => false

theorem lastB_spec {i j : Nat} {o : Oper} (h : lastB md ops i = true) (ho : ops[i]? = some o) (hj : j < ops.size) (hne : j ≠ i) : ∃ e ∈ o.after, Region.binds md e = true ∧ e.on = j := by
  unfold lastB at h
  simp only [ho, List.all_eq_true, List.mem_range, Bool.or_eq_true, beq_iff_eq] at h
  rcases h j hj with h1 | h1
  · exact absurd h1 hne
  · obtain ⟨e, he, hb⟩ := Array.any_eq_true'.1 h1
    simp only [Bool.and_eq_true, beq_iff_eq] at hb
    exact ⟨e, he, hb.1, hb.2⟩

/-- What an operation of a drawn region is: quiet, loud, or the last one. -/
inductive Kn where
  | q | l | z

def wpE (P : Program) (md : Region.Mode) (ops : Array Oper) (Q : Exit → Act → World → Prop) : Nat → Array Bool → Act → World → Prop
  | 0, listed, a, w => Region.ready md ops listed = [] ∧ Q .normal a w
  | fuel + 1, listed, a, w =>
    (Region.ready md ops listed = [] → Q .normal a w) ∧
    ∀ i ∈ Region.ready md ops listed, wpOp P ops Q i (fun a' w' => (Ext w w' ∨ lastB md ops i = true) ∧ wpE P md ops Q fuel (listed.setIfInBounds i true) a' w') a w

theorem wpAny_of_wpE {Q : Exit → Act → World → Prop} : ∀ (fuel : Nat) (listed : Array Bool) (a : Act) (w : World), wpE P md ops Q fuel listed a w → wpAny P md ops Q fuel listed a w
  | 0, _, _, _, h => h
  | fuel + 1, _, _, _, h => ⟨h.1, fun i hi => wpOp_mono (fun a' w' hk => wpAny_of_wpE fuel _ a' w' hk.2) (h.2 i hi)⟩

/-- In every later world the operation yields v. -/
def YldE (P : Program) (ops : Array Oper) (o : Oper) (v : Value) (a : Act) (w : World) : Prop :=
  (Region.wanted o (yielded ops a.tmps) = true ∧ ∀ w', Ext w w' → (execOp a.eval o).run P w' = .ok (.value v) w') ∨
  (Region.wanted o (yielded ops a.tmps) = false ∧ v = undef)

theorem YldE.wpOp {Q : Exit → Act → World → Prop} {i : Nat} {o : Oper} {v : Value} {a : Act} (hi : ops[i]? = some o) {w : World} (hy : YldE P ops o v a w)
    {K : Act → World → Prop} (h : K (a.put o.dst v) w) : wpOp P ops Q i K a w := by
  unfold Go.wpOp
  simp only [hi]
  rcases hy with ⟨hw, hv⟩ | ⟨hw, rfl⟩
  · simp only [hw, if_true, Oper.wp, hv w (Ext.rfl' w), Oper.upon]; exact .inl h
  · simp only [hw, Bool.false_eq_true, if_false]; exact h

theorem YldE.of_same {o : Oper} {v : Value} {a a' : Act} {w w' : World} (hy : YldE P ops o v a w) (he : execOp a'.eval o = execOp a.eval o)
    (hw : Region.wanted o (yielded ops a'.tmps) = Region.wanted o (yielded ops a.tmps)) (hx : Ext w w') : YldE P ops o v a' w' := by
  unfold YldE at *
  rw [he, hw]
  exact hy.imp (fun h => ⟨h.1, fun w2 h2 => h.2 w2 (hx.trans h2)⟩) id

def SameOp (ops : Array Oper) (o : Oper) (a a' : Act) : Prop :=
  execOp a'.eval o = execOp a.eval o ∧ Region.wanted o (yielded ops a'.tmps) = Region.wanted o (yielded ops a.tmps)

theorem wpOp_putE {Q : Exit → Act → World → Prop} {j : Nat} {oi oj : Oper} {v : Value} (hj : ops[j]? = some oj) (hap : oi.apart ops oj = true)
    (hsi : ∀ cs b, oi.op ≠ .select cs b) (hsj : ∀ cs b, oj.op ≠ .select cs b)
    (hQ : ∀ c a w, Q (.panic c) (a.put oi.dst v) w → Q (.panic c) a w) {K : Act → World → Prop} {a : Act} {w : World}
    (h : wpOp P ops Q j K (a.put oi.dst v) w) :
    wpOp P ops Q j (fun a' w' => SameOp ops oi a a' ∧ K (a'.put oi.dst v) w') a w := by
  obtain ⟨h1, h2, h3⟩ := Oper.apart_spec hap
  have keep : ∀ u, SameOp ops oi a (a.put oj.dst u) := fun u =>
    ⟨execOp_put oi hsi a oj.dst u h3, wanted_put oi a oj.dst u h3⟩
  have keepD : ∀ d u, SameOp ops oi a ({ a with defers := d :: a.defers }.put oj.dst u) := fun d u =>
    ⟨execOp_put oi hsi { a with defers := d :: a.defers } oj.dst u h3, wanted_put oi { a with defers := d :: a.defers } oj.dst u h3⟩
  unfold wpOp at *
  simp only [hj] at *
  rw [wanted_put oj a oi.dst v h1] at h
  split
  · rename_i hw
    simp only [hw, if_true] at h
    rcases h with h | ⟨hasks, hlets⟩
    case inr => exact .inr ⟨by unfold Oper.asks at *; rw [execOp_put oj hsj a oi.dst v h1] at hasks; exact hasks, hlets⟩
    refine .inl ?_
    unfold Oper.wp at *
    rw [execOp_put oj hsj a oi.dst v h1] at h
    generalize (execOp a.eval oj).run P w = r at *
    cases r with
    | ok nx w' =>
      cases nx <;> simp only [Oper.upon] at h ⊢
      case value u => exact ⟨keep u, by rw [← Act.put_comm a v u h2]; exact h⟩
      case skip => exact ⟨keep _, by rw [← Act.put_comm a v undef h2]; exact h⟩
      case defer d =>
        refine ⟨keepD d _, ?_⟩
        rw [← Act.put_comm _ v undef h2, ← Act.put_defers]
        exact h
      case enter f args =>
        refine Calls.mono h fun e w'' he => ?_
        cases e with
        | returned u => exact ⟨keep u, by rw [← Act.put_comm a v u h2]; exact he⟩
        | panicked c => exact hQ _ _ _ he
        | outgrown => exact he
      case row row args => exact Rows.mono h fun u w'' he => ⟨keep u, by rw [← Act.put_comm a v u h2]; exact he⟩
    | halt x w' =>
      cases x <;> simp only [Oper.upon] at h ⊢
      case panic u => exact hQ _ _ _ h
  · rename_i hw
    simp only [hw] at h
    exact ⟨keep _, by rw [← Act.put_comm a v undef h2]; exact h⟩

theorem wpE_first {Q : Exit → Act → World → Prop} {i : Nat} {oi : Oper} {v : Value} (hi : ops[i]? = some oi) (hsel : ∀ (j : Nat) (o : Oper) cs b, ops[j]? = some o → o.op ≠ .select cs b)
    (hQ : ∀ c a w, Q (.panic c) (a.put oi.dst v) w → Q (.panic c) a w) :
    ∀ (fuel : Nat) (listed : Array Bool) (a : Act) (w : World),
      (∀ j oj, ops[j]? = some oj → j ≠ i → listed.getD j true = false → (∀ e ∈ oj.after, Region.binds md e = true → e.on ≠ i) → oi.apart ops oj = true) →
      i ∈ Region.ready md ops listed → YldE P ops oi v a w →
      wpE P md ops Q fuel (listed.setIfInBounds i true) (a.put oi.dst v) w → wpE P md ops Q (fuel + 1) listed a w := by
  intro fuel
  induction fuel with
  | zero =>
    intro listed a w _ hr hy H
    refine ⟨fun h => (by rw [h] at hr; cases hr), fun j hj => ?_⟩
    by_cases hji : j = i
    · subst hji; exact hy.wpOp hi ⟨.inl (Ext.rfl' w), H⟩
    · have := ready_mono hj hji
      rw [H.1] at this
      cases this
  | succ fuel ih =>
    intro listed a w hfree hr hy H
    refine ⟨fun h => (by rw [h] at hr; cases hr), fun j hj => ?_⟩
    by_cases hji : j = i
    · subst hji; exact hy.wpOp hi ⟨.inl (Ext.rfl' w), H⟩
    · have h1 := H.2 j (ready_mono hj hji)
      obtain ⟨hjun, oj, hoj, hall⟩ := mem_ready.1 hj
      have hnot : ∀ e ∈ oj.after, Region.binds md e = true → e.on ≠ i := fun e he hb heq => by
        have h1 := hall e he hb
        have h0 := (mem_ready.1 hr).1
        rw [heq] at h1
        rcases Nat.lt_or_ge i listed.size with h' | h'
        · simp [h'] at h0 h1; rw [h0] at h1; cases h1
        · simp [Array.getElem?_eq_none h'] at h1
      have h2 := wpOp_putE hoj (hfree j oj hoj hji hjun hnot) (fun cs b => hsel i oi cs b hi) (fun cs b => hsel j oj cs b hoj) hQ h1
      have hfree' : ∀ k ok, ops[k]? = some ok → k ≠ i → (listed.setIfInBounds j true).getD k true = false →
          (∀ e ∈ ok.after, Region.binds md e = true → e.on ≠ i) → oi.apart ops ok = true := fun k ok hk hki hun hno => by
        refine hfree k ok hk hki ?_ hno
        by_cases hjk : j = k
        · subst hjk; exact hjun
        · rw [getD_set_ne true hjk] at hun; exact hun
      refine wpOp_mono (fun a' w' h3 => ?_) h2
      obtain ⟨hsame, hx, h4⟩ := h3
      replace hx : Ext w w' := hx.resolve_right fun hlast => by
        have hlt : i < ops.size := (Array.getElem?_eq_some_iff.1 hi).1
        obtain ⟨e, he, hb, heq⟩ := lastB_spec hlast hoj hlt (Ne.symm hji)
        exact hnot e he hb heq
      refine ⟨.inl hx, ih (listed.setIfInBounds j true) a' w' hfree' (ready_mono hr (Ne.symm hji)) (hy.of_same hsame.1 hsame.2 hx) ?_⟩
      rw [Array.setIfInBounds_comm _ _ hji]
      exact h4

/-- An order in which the region may be walked: each operation that comes up is ready; and either it may be taken first (true), or none but it may come up (false). -/
def ordOk (md : Region.Mode) (ops : Array Oper) : List (Nat × Kn) → Array Bool → Bool
  | [], listed => (Region.ready md ops listed).isEmpty
  | (i, .q) :: r, listed => (Region.ready md ops listed).contains i && Region.free md ops listed i && ordOk md ops r (listed.setIfInBounds i true)
  | (i, .l) :: r, listed => (Region.ready md ops listed == [i]) && ordOk md ops r (listed.setIfInBounds i true)
  | (i, .z) :: r, listed => (Region.ready md ops listed == [i]) && lastB md ops i && ordOk md ops r (listed.setIfInBounds i true)

/-- The walk along a list of operations. -/
def wpL (P : Program) (ops : Array Oper) (Q : Exit → Act → World → Prop) : List (Oper × Kn) → Act → World → Prop
  | [], a, w => Q .normal a w
  | (o, .q) :: r, a, w => ∃ v, YldE P ops o v a w ∧ wpL P ops Q r (a.put o.dst v) w
  | (o, .l) :: r, a, w =>
    if Region.wanted o (yielded ops a.tmps) then o.wp P a w (fun a' w' => Ext w w' ∧ wpL P ops Q r a' w') Q else wpL P ops Q r (a.put o.dst undef) w
  | (o, .z) :: r, a, w =>
    if Region.wanted o (yielded ops a.tmps) then o.wp P a w (fun a' w' => wpL P ops Q r a' w') Q else wpL P ops Q r (a.put o.dst undef) w

def pick (ops : Array Oper) : List (Nat × Kn) → List (Oper × Kn)
  | [] => []
  | (i, b) :: r => ((ops[i]?).getD default, b) :: pick ops r

theorem wpE_of_wpL {Q : Exit → Act → World → Prop} (hQ : ∀ c a w, Q (.panic c) a w → False) (hs : Region.noSelect ops = true) :
    ∀ (l : List (Nat × Kn)) (listed : Array Bool) (a : Act) (w : World), ordOk md ops l listed = true → wpL P ops Q (pick ops l) a w → wpE P md ops Q l.length listed a w
  | [], listed, a, w, ho, h => ⟨by simpa [ordOk] using ho, h⟩
  | (i, .q) :: r, listed, a, w, ho, h => by
    simp only [ordOk, Bool.and_eq_true] at ho
    obtain ⟨⟨hr, hf⟩, ho'⟩ := ho
    have hr' : i ∈ Region.ready md ops listed := by simpa using hr
    obtain ⟨_, oi, hi, _⟩ := mem_ready.1 hr'
    simp only [pick, hi, Option.getD_some, wpL] at h
    obtain ⟨v, hy, hk⟩ := h
    exact wpE_first hi (Region.noSelect_spec hs) (fun c a w hq => (hQ c _ w hq).elim) r.length listed a w (Region.free_spec hi hf) hr' hy (wpE_of_wpL hQ hs r _ _ _ ho' hk)
  | (i, .l) :: r, listed, a, w, ho, h => by
    simp only [ordOk, Bool.and_eq_true, beq_iff_eq] at ho
    obtain ⟨hr, ho'⟩ := ho
    refine ⟨fun h0 => (by rw [h0] at hr; cases hr), fun j hj => ?_⟩
    rw [hr] at hj
    obtain rfl : j = i := by simpa using hj
    have hr' : j ∈ Region.ready md ops listed := by rw [hr]; simp
    obtain ⟨_, oi, hi, _⟩ := mem_ready.1 hr'
    simp only [pick, hi, Option.getD_some, wpL] at h
    unfold wpOp
    simp only [hi]
    split
    · rename_i hw
      simp only [hw, if_true] at h
      exact .inl (Oper.wp_mono (fun a' w' hk => ⟨.inl hk.1, wpE_of_wpL hQ hs r _ a' w' ho' hk.2⟩) h)
    · rename_i hw
      simp only [hw] at h
      exact ⟨.inl (Ext.rfl' w), wpE_of_wpL hQ hs r _ _ w ho' h⟩
  | (i, .z) :: r, listed, a, w, ho, h => by
    simp only [ordOk, Bool.and_eq_true, beq_iff_eq] at ho
    obtain ⟨⟨hr, hlast⟩, ho'⟩ := ho
    refine ⟨fun h0 => (by rw [h0] at hr; cases hr), fun j hj => ?_⟩
    rw [hr] at hj
    obtain rfl : j = i := by simpa using hj
    have hr' : j ∈ Region.ready md ops listed := by rw [hr]; simp
    obtain ⟨_, oi, hi, _⟩ := mem_ready.1 hr'
    simp only [pick, hi, Option.getD_some, wpL] at h
    unfold wpOp
    simp only [hi]
    split
    · rename_i hw
      simp only [hw, if_true] at h
      exact .inl (Oper.wp_mono (fun a' w' hk => ⟨.inr hlast, wpE_of_wpL hQ hs r _ a' w' ho' hk⟩) h)
    · rename_i hw
      simp only [hw] at h
      exact ⟨.inr hlast, wpE_of_wpL hQ hs r _ _ w ho' h⟩
end

class Mixed (P : Program) : Prop where
  mixed : P.follows .mixedOrders = true

section
variable {P : Program} {n : Nat} {Q : Post} {D : List Deferred} {e : Env} {w : World}

/-- A region that draws its order; 'L': an order and what each operation is. -/
theorem W.regionD [hm : Mixed P] {id : Nat} {l : List Oper} (L : List (Nat × Kn)) (hs : Region.noSelect l.toArray = true) (hL : ordOk .any l.toArray L (Array.replicate l.length false) = true)
    (hlen : L.length = l.length) (h : ∀ w', Ext w w' → (w'.heap = w.heap) → ∀ a, Fr n D e a → wpL P l.toArray (post n Q) (pick l.toArray L) a w') : W P n (.region id l.toArray true) Q D e w := ⟨fun a ha => by
  refine wp_region_any hm.mixed (wpAny_of_wpE _ _ _ _ ?_)
  have hx : Ext w { w with drawn := w.drawn + 1 } := ⟨⟨rfl, rfl, rfl, Nat.le_refl _, fun _ _ => rfl⟩⟩
  have := wpE_of_wpL (md := .any) (Q := post n Q) (fun c a w hq => hq) hs L (Array.replicate l.length false) a _ hL (h _ hx rfl a ha)
  rw [hlen] at this
  simpa using this⟩
end
end Go.Kd

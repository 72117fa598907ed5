/- The walks and the plain laws, part 1. -/
import Derived.WalkKit
import Derived.Deep.Quiet
import Derived.LaidEqlPtr
import Derived.Deep.MidRow
import Derived.WalkSpells
import Derived.Lib.SliceRun
import Derived.Test.YtpiegpegjbmlkaaGreatDoorCards
import Derived.Test.YtpiegpegjbmlkaaGreatDoorTie
import Derived.ProofKit
import Derived.OpenShut
import Derived.Deep.DeepHandedRow
import Derived.Carry
import Derived.Lay
import Derived.SevenTiedAt
import Derived.Deep.AppendLies
import Derived.Lib.Strings
import Derived.Test.YtpiegpegjbmlkaaGreatDoorProg
namespace Go.Kd

/-- What is known of the slots of a frame. -/
abbrev Env := List (Nat × Value)

def lk : Env → Nat → Option Value
  | [], _ => none
  | (j, v) :: r, i => match Nat.beq j i with
    | true => some v
    | false => lk r i

theorem lk_cons (j : Nat) (v : Value) (r : Env) (i : Nat) : lk ((j, v) :: r) i = if j = i then some v else lk r i := by
  by_cases h : j = i
  · subst h; simp [lk, Nat.beq_refl]
  · have : Nat.beq j i = false := by
      cases hb : Nat.beq j i
      · rfl
      · exact absurd (Nat.eq_of_beq_eq_true hb) h
    simp [lk, this, h]

def ev (e : Env) : Operand → Option Value
  | .tmp t => lk e t
  | .const v => some v
  | .global g => some (.pointer (some ⟨g, 0, none⟩))
  | .func f => some (.func (.func f) #[] #[])

/-- The frame holds what is known. -/
structure Fr (n : Nat) (D : List Deferred) (e : Env) (a : Act) : Prop where
  size : a.tmps.size = n
  defers : a.defers = D
  get : ∀ i v, lk e i = some v → a.tmps[i]? = some v

theorem Fr.eval {n : Nat} {D : List Deferred} {e : Env} {a : Act} (h : Fr n D e a) {x : Operand} {v : Value} (hx : ev e x = some v) : a.eval x = v := by
  cases x with
  | tmp t => have := h.get t v hx; simp [Act.eval, this]
  | const u => simpa [ev, Act.eval] using hx
  | global g => simpa [ev, Act.eval] using hx
  | func f => simpa [ev, Act.eval] using hx

theorem Fr.put {n : Nat} {D : List Deferred} {e : Env} {a : Act} (h : Fr n D e a) {d : Nat} (hd : d < n) (v : Value) : Fr n D ((d, v) :: e) (a.put (some d) v) := by
  refine ⟨by simp [Act.put, h.size], by simp [Act.put, h.defers], fun i u hi => ?_⟩
  rw [lk_cons] at hi
  split at hi
  · rename_i hdi; subst hdi
    have : d < a.tmps.size := by rw [h.size]; exact hd
    simp only [Option.some.injEq] at hi
    simp [Act.put, this, hi]
  · rename_i hdi
    simp only [Act.put]
    rw [Array.getElem?_setIfInBounds_ne hdi]
    exact h.get i u hi

/-- Fewer things known. -/
theorem Fr.sub {n : Nat} {D : List Deferred} {e e' : Env} {a : Act} (h : Fr n D e a) (hs : ∀ i v, lk e' i = some v → lk e i = some v) : Fr n D e' a :=
  ⟨h.size, h.defers, fun i v hi => h.get i v (hs i v hi)⟩

abbrev Post := Exit → List Deferred → Env → World → Prop

/-- No panic, no lack of room. -/
def post (n : Nat) (Q : Post) : Exit → Act → World → Prop
  | .panic _, _, _ => False
  | .outgrown, _, _ => False
  | x, a, w => ∃ D e, Fr n D e a ∧ Q x D e w

structure W (P : Program) (n : Nat) (c : Code) (Q : Post) (D : List Deferred) (e : Env) (w : World) : Prop where
  out : ∀ a, Fr n D e a → c.wp P (post n Q) a w

def thn (K : List Deferred → Env → World → Prop) (Q : Post) : Post
  | .normal, D, e, w => K D e w
  | x, D, e, w => Q x D e w
def inb (id : Nat) (Q : Post) : Post
  | .exit id', D, e, w => match Nat.beq id' id with
    | true => Q .normal D e w
    | false => Q (.exit id') D e w
  | x, D, e, w => Q x D e w

section
variable {P : Program} {n : Nat} {Q Q' : Post} {D : List Deferred} {e : Env} {w : World}

theorem W.mono {c : Code} (h : W P n c Q D e w) (hq : ∀ x D e w, Q x D e w → Q' x D e w) : W P n c Q' D e w := ⟨fun a ha =>
  wp_mono (h.out a ha) fun x a' w' hx => by
    cases x <;> first
      | exact hx
      | (obtain ⟨D', e', h1, h2⟩ := hx; exact ⟨D', e', h1, hq _ _ _ _ h2⟩)⟩

theorem W.sub {c : Code} {e' : Env} (h : W P n c Q D e' w) (hs : ∀ i v, lk e' i = some v → lk e i = some v) : W P n c Q D e w := ⟨fun a ha => h.out a (ha.sub hs)⟩

theorem W.seq {x y : Code} (h : W P n x (thn (W P n y Q) Q) D e w) : W P n (.seq x y) Q D e w := ⟨fun a ha =>
  wp_seq (wp_mono (h.out a ha) fun x a' w' hx => by
    cases x <;> first
      | exact hx
      | (obtain ⟨D', e', h1, h2⟩ := hx; exact h2.out a' h1))⟩

theorem W.skip (h : Q .normal D e w) : W P n .skip Q D e w := ⟨fun _ ha => wp_skip ⟨D, e, ha, h⟩⟩
theorem W.exit {id : Nat} (h : Q (.exit id) D e w) : W P n (.exit id) Q D e w := ⟨fun _ ha => wp_exit ⟨D, e, ha, h⟩⟩
theorem W.ret (h : Q .ret D e w) : W P n .ret Q D e w := ⟨fun _ ha => wp_ret ⟨D, e, ha, h⟩⟩

theorem W.block {id : Nat} {c : Code} (h : W P n c (inb id Q) D e w) : W P n (.block id c) Q D e w := ⟨fun a ha =>
  wp_block (wp_mono (h.out a ha) fun x a' w' hx => by
    cases x with
    | exit id' =>
      obtain ⟨D', e', h1, h2⟩ := hx
      simp only [inb] at h2
      by_cases hid : id' = id
      · subst hid
        simp only [Nat.beq_refl] at h2
        simp only [Exit.inBlock, if_true]
        exact ⟨D', e', h1, h2⟩
      · have : Nat.beq id' id = false := by
          cases hb : Nat.beq id' id
          · rfl
          · exact absurd (Nat.eq_of_beq_eq_true hb) hid
        simp only [this] at h2
        simp only [Exit.inBlock, hid, if_false]
        exact ⟨D', e', h1, h2⟩
    | _ => exact hx)⟩

theorem W.cond {c : Operand} {x y : Code} {t : Bool} (hc : ev e c = some (.bool t)) (ht : t = true → W P n x Q D e w) (hf : t = false → W P n y Q D e w) :
    W P n (.cond c x y) Q D e w := ⟨fun a ha =>
  wp_cond_split (ha.eval hc) (fun h => (ht h).out a ha) (fun h => (hf h).out a ha)⟩
theorem W.cond_t {c : Operand} {x y : Code} (hc : ev e c = some (.bool true)) (h : W P n x Q D e w) : W P n (.cond c x y) Q D e w :=
  W.cond hc (fun _ => h) (fun h => by cases h)
theorem W.cond_f {c : Operand} {x y : Code} (hc : ev e c = some (.bool false)) (h : W P n y Q D e w) : W P n (.cond c x y) Q D e w :=
  W.cond hc (fun h => by cases h) (fun _ => h)

theorem lift_exit {K : List Deferred → Env → World → Prop} {id : Nat} {a : Act} {w : World} (h : post n (thn K Q) (.exit id) a w) : post n Q (.exit id) a w := h
theorem lift_goto {K : List Deferred → Env → World → Prop} {l : Nat} {a : Act} {w : World} (h : post n (thn K Q) (.goto l) a w) : post n Q (.goto l) a w := h
theorem lift_ret {K : List Deferred → Env → World → Prop} {a : Act} {w : World} (h : post n (thn K Q) .ret a w) : post n Q .ret a w := h

/-- A loop: what is known at a round's head is said by a ghost state. -/
theorem W.loop {c : Code} {σ : Type} (E : σ → Env) (I : σ → List Deferred → World → Prop) (m : σ → Nat) (s0 : σ)
    (h0 : I s0 D w) (hs : ∀ i v, lk (E s0) i = some v → lk e i = some v)
    (round : ∀ s D w, I s D w → W P n c (thn (fun D' e' w' => ∃ s', m s' < m s ∧ I s' D' w' ∧ ∀ i v, lk (E s') i = some v → lk e' i = some v) Q) D (E s) w) :
    W P n (.loop c) Q D e w := by
  refine ⟨fun a ha b k cs => ?_⟩
  have key : ∀ j s D w a, m s ≤ j → I s D w → Fr n D (E s) a →
      ∃ x a' w', post n Q x a' w' ∧ Arrives P (lone (b.at a (.code c :: .inLoop c :: k)) cs w) b k cs x a' w' := by
    intro j
    induction j with
    | zero =>
      intro s D w a hm hI hf
      obtain ⟨x, a1, w1, hq, harr⟩ := (round s D w hI).out a hf b (.inLoop c :: k) cs
      cases x with
      | normal => obtain ⟨_, _, _, s', hlt, _⟩ := hq; omega
      | exit id => exact ⟨_, a1, w1, lift_exit hq, .pass (x := .inLoop c) rfl (fun _ _ => .inl (by simp)) harr⟩
      | goto l => exact ⟨_, a1, w1, lift_goto hq, .pass (x := .inLoop c) rfl (fun _ _ => .inl (by simp)) harr⟩
      | ret => exact ⟨_, a1, w1, lift_ret hq, .pass (x := .inLoop c) rfl (fun _ _ => .inl (by simp)) harr⟩
      | panic ch => exact hq.elim
      | outgrown => exact hq.elim
    | succ j ih =>
      intro s D w a hm hI hf
      obtain ⟨x, a1, w1, hq, harr⟩ := (round s D w hI).out a hf b (.inLoop c :: k) cs
      cases x with
      | normal =>
        obtain ⟨D1, e1, hf1, s', hlt, hI', hsub⟩ := hq
        obtain ⟨x2, a2, w2, hq2, harr2⟩ := ih s' D1 w1 a1 (by omega) hI' (hf1.sub hsub)
        exact ⟨x2, a2, w2, hq2, .of_steps (Steps.trans harr (.one step_inLoop)) harr2⟩
      | exit id => exact ⟨_, a1, w1, lift_exit hq, .pass (x := .inLoop c) rfl (fun _ _ => .inl (by simp)) harr⟩
      | goto l => exact ⟨_, a1, w1, lift_goto hq, .pass (x := .inLoop c) rfl (fun _ _ => .inl (by simp)) harr⟩
      | ret => exact ⟨_, a1, w1, lift_ret hq, .pass (x := .inLoop c) rfl (fun _ _ => .inl (by simp)) harr⟩
      | panic ch => exact hq.elim
      | outgrown => exact hq.elim
  obtain ⟨x, a', w', hq, harr⟩ := key (m s0) s0 D w a (Nat.le_refl _) h0 (ha.sub hs)
  exact ⟨x, a', w', hq, .of_steps (.one step_loop) harr⟩

end

section
variable {K : List Deferred → Env → World → Prop} {Q : Post} {D : List Deferred} {e : Env} {w : World}
theorem thn_normal (h : K D e w) : thn K Q .normal D e w := h
theorem thn_exit {id : Nat} (h : Q (.exit id) D e w) : thn K Q (.exit id) D e w := h
theorem thn_ret (h : Q .ret D e w) : thn K Q .ret D e w := h
theorem inb_normal {id : Nat} (h : Q .normal D e w) : inb id Q .normal D e w := h
theorem inb_ret {id : Nat} (h : Q .ret D e w) : inb id Q .ret D e w := h
theorem inb_hit {id : Nat} (h : Q .normal D e w) : inb id Q (.exit id) D e w := by
  simp only [inb, Nat.beq_refl]; exact h
theorem inb_miss {id id' : Nat} (hne : Nat.beq id' id = false) (h : Q (.exit id') D e w) : inb id Q (.exit id') D e w := by
  simp only [inb, hne]; exact h
end

/-! ### The regions -/

/-- old memory is as it was -/
class Ext (w : semiOutParam World) (w' : World) : Prop where
  below : RowKit.Below w.heap.size w w'

theorem Ext.rfl' (w : World) : Ext w w := ⟨RowKit.Below.refl _ _⟩
theorem Ext.trans {a b c : World} (h : Ext a b) (k : Ext b c) : Ext a c := ⟨h.below.trans (k.below.mono h.below.size)⟩
theorem Ext.size {a b : World} (h : Ext a b) : a.heap.size ≤ b.heap.size := h.below.size

/-- Block b is o. -/
class Has (w : World) (b : Nat) (o : outParam Obj) : Prop where
  at_ : w.heap[b]? = some o

theorem Has.lt {w : World} {b : Nat} {o : Obj} (h : Has w b o) : b < w.heap.size := (Array.getElem?_eq_some_iff.1 h.at_).1
theorem Has.ext' {w w' : World} {b : Nat} {o : Obj} (x : Ext w w') (h : Has w b o) : Has w' b o := ⟨(x.below.block b h.lt).trans h.at_⟩
instance Has.ext {w w' : World} {b : Nat} {o : Obj} [x : Ext w w'] [h : Has w b o] : Has w' b o := h.ext' x

section
variable {P : Program} {ops : Array Oper} {md : Region.Mode}

/-- what comes before an operation, and before that -/
def direct (md : Region.Mode) (o : Oper) : List Nat := (o.after.toList.filter fun e => Region.binds md e).map (·.on)
def ancN (md : Region.Mode) (ops : Array Oper) : Nat → Nat → List Nat
  | 0, _ => []
  | f + 1, i => match ops[i]? with
    | some o => direct md o ++ (direct md o).flatMap fun k => ancN md ops f k
    | none => []
abbrev anc (md : Region.Mode) (ops : Array Oper) (i : Nat) : List Nat := ancN md ops 3 i
/-- All others come before operation i, or behind it. -/
def lastB (md : Region.Mode) (ops : Array Oper) (i : Nat) : Bool :=
  (List.range ops.size).all fun j => j == i || (anc md ops i).contains j || (anc md ops j).contains i

def Closed (md : Region.Mode) (ops : Array Oper) (listed : Array Bool) : Prop :=
  ∀ k ok, ops[k]? = some ok → listed.getD k false = true → ∀ e ∈ ok.after, Region.binds md e = true → listed.getD e.on false = true

theorem mem_direct {o : Oper} {k : Nat} (h : k ∈ direct md o) : ∃ e ∈ o.after, Region.binds md e = true ∧ e.on = k := by
  unfold direct at h
  obtain ⟨e, he, rfl⟩ := List.mem_map.1 h
  obtain ⟨h1, h2⟩ := List.mem_filter.1 he
  exact ⟨e, by simpa using h1, h2, rfl⟩
theorem ancN_listed {listed : Array Bool} (hc : Closed md ops listed) : ∀ (f : Nat) {i : Nat} {o : Oper}, ops[i]? = some o → (∀ e ∈ o.after, Region.binds md e = true → listed.getD e.on false = true) → ∀ {k : Nat}, k ∈ ancN md ops f i → listed.getD k false = true
  | 0, _, _, _, _, _, hk => by cases hk
  | f + 1, i, o, ho, hall, k, hk => by
    unfold ancN at hk
    rw [ho] at hk
    rcases List.mem_append.1 hk with h | h
    · obtain ⟨e, h1, h2, rfl⟩ := mem_direct h
      exact hall e h1 h2
    · obtain ⟨m, h1, h2⟩ := List.mem_flatMap.1 h
      obtain ⟨e, g1, g2, rfl⟩ := mem_direct h1
      have hm := hall e g1 g2
      cases hom : ops[e.on]? with
      | none =>
        cases f with
        | zero => cases h2
        | succ f => unfold ancN at h2; rw [hom] at h2; cases h2
      | some om => exact ancN_listed hc f hom (fun e' k1 k2 => hc _ om hom hm e' k1 k2) h2
theorem anc_listed {listed : Array Bool} (hc : Closed md ops listed) {i : Nat} {o : Oper} (ho : ops[i]? = some o) (hall : ∀ e ∈ o.after, Region.binds md e = true → listed.getD e.on false = true) {k : Nat} (hk : k ∈ anc md ops i) : listed.getD k false = true := ancN_listed hc 3 ho hall hk
theorem getD_set {listed : Array Bool} {i k : Nat} (h : listed.getD k false = true) : (listed.setIfInBounds i true).getD k false = true := by
  by_cases hik : i = k
  · subst hik
    rcases Nat.lt_or_ge i listed.size with h' | h'
    · simp [h']
    · simp [Array.getElem?_eq_none h'] at h
  · rw [getD_set_ne false hik]; exact h
theorem Closed.step {listed : Array Bool} (hc : Closed md ops listed) {i : Nat} (hr : i ∈ Region.ready md ops listed) : Closed md ops (listed.setIfInBounds i true) := fun k ok hk hl e he hb => by
  by_cases hik : i = k
  · subst hik
    obtain ⟨_, o, ho, hall⟩ := mem_ready.1 hr
    rw [ho] at hk
    cases hk
    exact getD_set (hall e he hb)
  · rw [getD_set_ne false hik] at hl
    exact getD_set (hc k ok hk hl e he hb)
theorem lastB_spec {i j : Nat} {oj : Oper} (h : lastB md ops i = true) (ho' : ops[j]? = some oj) (hne : j ≠ i) : j ∈ anc md ops i ∨ i ∈ anc md ops j := by
  unfold lastB at h
  have hj : j < ops.size := (Array.getElem?_eq_some_iff.1 ho').1
  simp only [List.all_eq_true, List.mem_range, Bool.or_eq_true, beq_iff_eq, List.contains_iff_mem] at h
  rcases h j hj with (h1 | h1) | h1
  · exact absurd h1 hne
  · exact .inl h1
  · exact .inr h1

/-- What an operation of a drawn region is: quiet, loud, or the last one. -/
inductive Kn where
  | q | l | z

def wpE (P : Program) (md : Region.Mode) (ops : Array Oper) (Q : Exit → Act → World → Prop) : Nat → Array Bool → Act → World → Prop
  | 0, listed, a, w => Region.ready md ops listed = [] ∧ Q .normal a w
  | fuel + 1, listed, a, w =>
    (Region.ready md ops listed = [] → Q .normal a w) ∧
    ∀ i ∈ Region.ready md ops listed, wpOp P ops Q i (fun a' w' => (Ext w w' ∨ lastB md ops i = true) ∧ wpE P md ops Q fuel (listed.setIfInBounds i true) a' w') a w

theorem wpAny_of_wpE {Q : Exit → Act → World → Prop} : ∀ (fuel : Nat) (listed : Array Bool) (a : Act) (w : World), wpE P md ops Q fuel listed a w → wpAny P md ops Q fuel listed a w
  | 0, _, _, _, h => h
  | fuel + 1, _, _, _, h => ⟨h.1, fun i hi => wpOp_mono (fun a' w' hk => wpAny_of_wpE fuel _ a' w' hk.2) (h.2 i hi)⟩

/-- In every later world the operation yields v. -/
def YldE (P : Program) (ops : Array Oper) (o : Oper) (v : Value) (a : Act) (w : World) : Prop :=
  (Region.wanted o (yielded ops a.tmps) = true ∧ ∀ w', Ext w w' → (execOp a.eval o).run P w' = .ok (.value v) w') ∨
  (Region.wanted o (yielded ops a.tmps) = false ∧ v = undef)

theorem YldE.wpOp {Q : Exit → Act → World → Prop} {i : Nat} {o : Oper} {v : Value} {a : Act} (hi : ops[i]? = some o) {w : World} (hy : YldE P ops o v a w)
    {K : Act → World → Prop} (h : K (a.put o.dst v) w) : wpOp P ops Q i K a w := by
  unfold Go.wpOp
  simp only [hi]
  rcases hy with ⟨hw, hv⟩ | ⟨hw, rfl⟩
  · simp only [hw, if_true, Oper.wp, hv w (Ext.rfl' w), Oper.upon]; exact .inl h
  · simp only [hw, Bool.false_eq_true, if_false]; exact h

theorem YldE.of_same {o : Oper} {v : Value} {a a' : Act} {w w' : World} (hy : YldE P ops o v a w) (he : execOp a'.eval o = execOp a.eval o)
    (hw : Region.wanted o (yielded ops a'.tmps) = Region.wanted o (yielded ops a.tmps)) (hx : Ext w w') : YldE P ops o v a' w' := by
  unfold YldE at *
  rw [he, hw]
  exact hy.imp (fun h => ⟨h.1, fun w2 h2 => h.2 w2 (hx.trans h2)⟩) id

def SameOp (ops : Array Oper) (o : Oper) (a a' : Act) : Prop :=
  execOp a'.eval o = execOp a.eval o ∧ Region.wanted o (yielded ops a'.tmps) = Region.wanted o (yielded ops a.tmps)

theorem wpOp_putE {Q : Exit → Act → World → Prop} {j : Nat} {oi oj : Oper} {v : Value} (hj : ops[j]? = some oj) (hap : oi.apart ops oj = true)
    (hsi : ∀ cs b, oi.op ≠ .select cs b) (hsj : ∀ cs b, oj.op ≠ .select cs b)
    (hQ : ∀ c a w, Q (.panic c) (a.put oi.dst v) w → Q (.panic c) a w) {K : Act → World → Prop} {a : Act} {w : World}
    (h : wpOp P ops Q j K (a.put oi.dst v) w) :
    wpOp P ops Q j (fun a' w' => SameOp ops oi a a' ∧ K (a'.put oi.dst v) w') a w := by
  obtain ⟨h1, h2, h3⟩ := Oper.apart_spec hap
  have keep : ∀ u, SameOp ops oi a (a.put oj.dst u) := fun u =>
    ⟨execOp_put oi hsi a oj.dst u h3, wanted_put oi a oj.dst u h3⟩
  have keepD : ∀ d u, SameOp ops oi a ({ a with defers := d :: a.defers }.put oj.dst u) := fun d u =>
    ⟨execOp_put oi hsi { a with defers := d :: a.defers } oj.dst u h3, wanted_put oi { a with defers := d :: a.defers } oj.dst u h3⟩
  unfold wpOp at *
  simp only [hj] at *
  rw [wanted_put oj a oi.dst v h1] at h
  split
  · rename_i hw
    simp only [hw, if_true] at h
    rcases h with h | ⟨hasks, hlets⟩
    case inr => exact .inr ⟨by unfold Oper.asks at *; rw [execOp_put oj hsj a oi.dst v h1] at hasks; exact hasks, hlets⟩
    refine .inl ?_
    unfold Oper.wp at *
    rw [execOp_put oj hsj a oi.dst v h1] at h
    generalize (execOp a.eval oj).run P w = r at *
    cases r with
    | ok nx w' =>
      cases nx <;> simp only [Oper.upon] at h ⊢
      case value u => exact ⟨keep u, by rw [← Act.put_comm a v u h2]; exact h⟩
      case skip => exact ⟨keep _, by rw [← Act.put_comm a v undef h2]; exact h⟩
      case defer d =>
        refine ⟨keepD d _, ?_⟩
        rw [← Act.put_comm _ v undef h2, ← Act.put_defers]
        exact h
      case enter f args =>
        refine Calls.mono h fun e w'' he => ?_
        cases e with
        | returned u => exact ⟨keep u, by rw [← Act.put_comm a v u h2]; exact he⟩
        | panicked c => exact hQ _ _ _ he
        | outgrown => exact he
      case row row args => exact Rows.mono h fun u w'' he => ⟨keep u, by rw [← Act.put_comm a v u h2]; exact he⟩
    | halt x w' =>
      cases x <;> simp only [Oper.upon] at h ⊢
      case panic u => exact hQ _ _ _ h
  · rename_i hw
    simp only [hw] at h
    exact ⟨keep _, by rw [← Act.put_comm a v undef h2]; exact h⟩

theorem wpE_first {Q : Exit → Act → World → Prop} {i : Nat} {oi : Oper} {v : Value} (hi : ops[i]? = some oi) (hsel : ∀ (j : Nat) (o : Oper) cs b, ops[j]? = some o → o.op ≠ .select cs b)
    (hQ : ∀ c a w, Q (.panic c) (a.put oi.dst v) w → Q (.panic c) a w) :
    ∀ (fuel : Nat) (listed : Array Bool) (a : Act) (w : World), Closed md ops listed →
      (∀ j oj, ops[j]? = some oj → j ≠ i → listed.getD j true = false → (∀ e ∈ oj.after, Region.binds md e = true → e.on ≠ i) → oi.apart ops oj = true) →
      i ∈ Region.ready md ops listed → YldE P ops oi v a w →
      wpE P md ops Q fuel (listed.setIfInBounds i true) (a.put oi.dst v) w → wpE P md ops Q (fuel + 1) listed a w := by
  intro fuel
  induction fuel with
  | zero =>
    intro listed a w _ _ hr hy H
    refine ⟨fun h => (by rw [h] at hr; cases hr), fun j hj => ?_⟩
    by_cases hji : j = i
    · subst hji; exact hy.wpOp hi ⟨.inl (Ext.rfl' w), H⟩
    · have := ready_mono hj hji
      rw [H.1] at this
      cases this
  | succ fuel ih =>
    intro listed a w hcl hfree hr hy H
    refine ⟨fun h => (by rw [h] at hr; cases hr), fun j hj => ?_⟩
    by_cases hji : j = i
    · subst hji; exact hy.wpOp hi ⟨.inl (Ext.rfl' w), H⟩
    · have h1 := H.2 j (ready_mono hj hji)
      obtain ⟨hjun, oj, hoj, hall⟩ := mem_ready.1 hj
      have hnot : ∀ e ∈ oj.after, Region.binds md e = true → e.on ≠ i := fun e he hb heq => by
        have h1 := hall e he hb
        have h0 := (mem_ready.1 hr).1
        rw [heq] at h1
        rcases Nat.lt_or_ge i listed.size with h' | h'
        · simp [h'] at h0 h1; rw [h0] at h1; cases h1
        · simp [Array.getElem?_eq_none h'] at h1
      have h2 := wpOp_putE hoj (hfree j oj hoj hji hjun hnot) (fun cs b => hsel i oi cs b hi) (fun cs b => hsel j oj cs b hoj) hQ h1
      have hfree' : ∀ k ok, ops[k]? = some ok → k ≠ i → (listed.setIfInBounds j true).getD k true = false →
          (∀ e ∈ ok.after, Region.binds md e = true → e.on ≠ i) → oi.apart ops ok = true := fun k ok hk hki hun hno => by
        refine hfree k ok hk hki ?_ hno
        by_cases hjk : j = k
        · subst hjk; exact hjun
        · rw [getD_set_ne true hjk] at hun; exact hun
      refine wpOp_mono (fun a' w' h3 => ?_) h2
      obtain ⟨hsame, hx, h4⟩ := h3
      replace hx : Ext w w' := hx.resolve_right fun hlast => by
        have un : ∀ k, listed.getD k true = false → listed.getD k false = true → False := fun k h0 h1 => by
          rcases Nat.lt_or_ge k listed.size with h' | h'
          · simp [h'] at h0 h1; rw [h0] at h1; cases h1
          · simp [Array.getElem?_eq_none h'] at h1
        rcases lastB_spec hlast hi (Ne.symm hji) with h | h
        · exact un i (mem_ready.1 hr).1 (anc_listed hcl hoj hall h)
        · obtain ⟨_, oi', hoi', hall'⟩ := mem_ready.1 hr
          rw [hi] at hoi'
          cases hoi'
          exact un j hjun (anc_listed hcl hi hall' h)
      refine ⟨.inl hx, ih (listed.setIfInBounds j true) a' w' (hcl.step hj) hfree' (ready_mono hr (Ne.symm hji)) (hy.of_same hsame.1 hsame.2 hx) ?_⟩
      rw [Array.setIfInBounds_comm _ _ hji]
      exact h4

/-- An order in which the region may be walked: each operation that comes up is ready; and either it may be taken first (true), or none but it may come up (false). -/
def ordOk (md : Region.Mode) (ops : Array Oper) : List (Nat × Kn) → Array Bool → Bool
  | [], listed => (Region.ready md ops listed).isEmpty
  | (i, .q) :: r, listed => (Region.ready md ops listed).contains i && Region.free md ops listed i && ordOk md ops r (listed.setIfInBounds i true)
  | (i, .l) :: r, listed => (Region.ready md ops listed == [i]) && ordOk md ops r (listed.setIfInBounds i true)
  | (i, .z) :: r, listed => (Region.ready md ops listed == [i]) && lastB md ops i && ordOk md ops r (listed.setIfInBounds i true)

/-- The walk along a list of operations. -/
def wpL (P : Program) (ops : Array Oper) (Q : Exit → Act → World → Prop) : List (Oper × Kn) → Act → World → Prop
  | [], a, w => Q .normal a w
  | (o, .q) :: r, a, w => ∃ v, YldE P ops o v a w ∧ wpL P ops Q r (a.put o.dst v) w
  | (o, .l) :: r, a, w =>
    if Region.wanted o (yielded ops a.tmps) then o.wp P a w (fun a' w' => Ext w w' ∧ wpL P ops Q r a' w') Q else wpL P ops Q r (a.put o.dst undef) w
  | (o, .z) :: r, a, w =>
    if Region.wanted o (yielded ops a.tmps) then o.wp P a w (fun a' w' => wpL P ops Q r a' w') Q else wpL P ops Q r (a.put o.dst undef) w

def pick (ops : Array Oper) : List (Nat × Kn) → List (Oper × Kn)
  | [] => []
  | (i, b) :: r => ((ops[i]?).getD default, b) :: pick ops r

theorem wpE_of_wpL {Q : Exit → Act → World → Prop} (hQ : ∀ c a w, Q (.panic c) a w → False) (hs : Region.noSelect ops = true) :
    ∀ (l : List (Nat × Kn)) (listed : Array Bool) (a : Act) (w : World), Closed md ops listed → ordOk md ops l listed = true → wpL P ops Q (pick ops l) a w → wpE P md ops Q l.length listed a w
  | [], listed, a, w, _, ho, h => ⟨by simpa [ordOk] using ho, h⟩
  | (i, .q) :: r, listed, a, w, hcl, ho, h => by
    simp only [ordOk, Bool.and_eq_true] at ho
    obtain ⟨⟨hr, hf⟩, ho'⟩ := ho
    have hr' : i ∈ Region.ready md ops listed := by simpa using hr
    obtain ⟨_, oi, hi, _⟩ := mem_ready.1 hr'
    simp only [pick, hi, Option.getD_some, wpL] at h
    obtain ⟨v, hy, hk⟩ := h
    exact wpE_first hi (Region.noSelect_spec hs) (fun c a w hq => (hQ c _ w hq).elim) r.length listed a w hcl (Region.free_spec hi hf) hr' hy (wpE_of_wpL hQ hs r _ _ _ (hcl.step hr') ho' hk)
  | (i, .l) :: r, listed, a, w, hcl, ho, h => by
    simp only [ordOk, Bool.and_eq_true, beq_iff_eq] at ho
    obtain ⟨hr, ho'⟩ := ho
    refine ⟨fun h0 => (by rw [h0] at hr; cases hr), fun j hj => ?_⟩
    rw [hr] at hj
    obtain rfl : j = i := by simpa using hj
    have hr' : j ∈ Region.ready md ops listed := by rw [hr]; simp
    obtain ⟨_, oi, hi, _⟩ := mem_ready.1 hr'
    simp only [pick, hi, Option.getD_some, wpL] at h
    unfold wpOp
    simp only [hi]
    split
    · rename_i hw
      simp only [hw, if_true] at h
      exact .inl (Oper.wp_mono (fun a' w' hk => ⟨.inl hk.1, wpE_of_wpL hQ hs r _ a' w' (hcl.step hr') ho' hk.2⟩) h)
    · rename_i hw
      simp only [hw] at h
      exact ⟨.inl (Ext.rfl' w), wpE_of_wpL hQ hs r _ _ w (hcl.step hr') ho' h⟩
  | (i, .z) :: r, listed, a, w, hcl, ho, h => by
    simp only [ordOk, Bool.and_eq_true, beq_iff_eq] at ho
    obtain ⟨⟨hr, hlast⟩, ho'⟩ := ho
    refine ⟨fun h0 => (by rw [h0] at hr; cases hr), fun j hj => ?_⟩
    rw [hr] at hj
    obtain rfl : j = i := by simpa using hj
    have hr' : j ∈ Region.ready md ops listed := by rw [hr]; simp
    obtain ⟨_, oi, hi, _⟩ := mem_ready.1 hr'
    simp only [pick, hi, Option.getD_some, wpL] at h
    unfold wpOp
    simp only [hi]
    split
    · rename_i hw
      simp only [hw, if_true] at h
      exact .inl (Oper.wp_mono (fun a' w' hk => ⟨.inr hlast, wpE_of_wpL hQ hs r _ a' w' (hcl.step hr') ho' hk⟩) h)
    · rename_i hw
      simp only [hw] at h
      exact ⟨.inr hlast, wpE_of_wpL hQ hs r _ _ w (hcl.step hr') ho' h⟩
end

class Mixed (P : Program) : Prop where
  mixed : P.follows .mixedOrders = true

section
variable {P : Program} {n : Nat} {Q : Post} {D : List Deferred} {e : Env} {w : World}

/-- A region that draws its order; 'L': an order and what each operation is. -/
theorem W.regionD [hm : Mixed P] {id : Nat} {l : List Oper} (L : List (Nat × Kn)) (hs : Region.noSelect l.toArray = true) (hL : ordOk .any l.toArray L (Array.replicate l.length false) = true)
    (hlen : L.length = l.length) (h : ∀ w', Ext w w' → (w'.heap = w.heap) → ∀ a, Fr n D e a → wpL P l.toArray (post n Q) (pick l.toArray L) a w') : W P n (.region id l.toArray true) Q D e w := ⟨fun a ha => by
  refine wp_region_any hm.mixed (wpAny_of_wpE _ _ _ _ ?_)
  have hx : Ext w { w with drawn := w.drawn + 1 } := ⟨⟨rfl, rfl, rfl, Nat.le_refl _, fun _ _ => rfl⟩⟩
  have := wpE_of_wpL (md := .any) (Q := post n Q) (fun c a w hq => hq) hs L (Array.replicate l.length false) a _ (fun k ok _ h => by simp [Array.getD] at h) hL (h _ hx rfl a ha)
  rw [hlen] at this
  simpa using this⟩
end
end Go.Kd
namespace Go.Kd

/-! ### Facts on the program's tables -/
class Und (P : Program) (t : TypeId) (d : outParam TypeDesc) : Prop where
  at_ : P.underlying t = some d
/-- Field f of struct type t lies at off; of more than no cells. -/
class Fld (P : Program) (t : TypeId) (f : Nat) (off : outParam Nat) : Prop where
  at_ : ∃ fs fd i, P.underlying t = some (.struct fs) ∧ fs[f]? = some fd ∧ fd.offset = off ∧ P.info? fd.type = some i ∧ i.size ≠ 0
/-- t is a type of one cell, no struct, no array. -/
class Scl (P : Program) (t : TypeId) : Prop where
  at_ : ∃ d i, P.underlying t = some d ∧ (match d with | .struct _ => False | .array _ _ => False | _ => True) ∧ P.info? t = some i ∧ i.size = 1
/-- t is a struct or an array of n cells. -/
class Agt (P : Program) (t : TypeId) (n : outParam Nat) : Prop where
  at_ : ∃ d i, P.underlying t = some d ∧ (match d with | .struct _ => True | .array _ _ => True | _ => False) ∧ P.info? t = some i ∧ i.size = n
/-- A function with a Go body. -/
class Fun (P : Program) (k : FuncId) : Prop where
  at_ : ∃ fn, P.funcs[k]? = some fn ∧ (fn.name == "runtime.NumGoroutine") = false ∧ fn.body.isNone = false
/-- The method of a pointer type: a pointer receiver. -/
class Mth (P : Program) (t : TypeId) (name : String) (k : outParam FuncId) : Prop where
  at_ : (∃ e, P.underlying t = some (.pointer e)) ∧ ∃ i m, P.info? t = some i ∧ i.methods.find? (·.name == name) = some m ∧ m.path = #[] ∧ m.func = some (k, true)

/-! ### What is known of the operands -/
def Ag (ρ : Operand → Value) (e : Env) : Prop := ∀ x v, ev e x = some v → ρ x = v
theorem Fr.ag {n : Nat} {D : List Deferred} {e : Env} {a : Act} (h : Fr n D e a) : Ag a.eval e := fun _ _ hx => h.eval hx

/-- In this and every later world the operation yields v. -/
structure Yld (P : Program) (e : Env) (o : Oper) (v : Value) (w : World) : Prop where
  out : ∀ ρ, Ag ρ e → ∀ w', Ext w w' → (execOp ρ o).run P w' = .ok (.value v) w'

/-- What the operation comes to in this world. -/
structure Stp (P : Program) (e : Env) (o : Oper) (w : World) (R : Value → World → Prop) : Prop where
  out : ∀ ρ, Ag ρ e → match (execOp ρ o).run P w with
    | .ok (.value v) w' => R v w'
    | .ok .skip w' => R undef w'
    | .ok (.enter f args) w' => Calls P f args w' (fun x w'' => ∃ v, x = .returned v ∧ R v w'')
    | _ => False

theorem Yld.stp {P : Program} {e : Env} {o : Oper} {v : Value} {w : World} (h : Yld P e o v w) : Stp P e o w (fun v' w' => v' = v ∧ w' = w) := ⟨fun ρ hρ => by
  rw [h.out ρ hρ w (Ext.rfl' w)]
  exact ⟨rfl, rfl⟩⟩

def wb : Value → Bool → Option Bool
  | .bool true, true => some true
  | .bool true, false => some false
  | .bool false, true => some false
  | .bool false, false => some true
  | .tuple _, _ => some false
  | _, _ => none

/-- Is the operation carried out? -/
def wn (ops : List Oper) (e : Env) : Option (Nat × Bool) → Option Bool
  | none => some true
  | some (j, b) => match ops[j]? with
    | some o => match o.dst with
      | some d => match lk e d with
        | some u => wb u b
        | none => none
      | none => none
    | none => none

theorem wn_spec {ops : List Oper} {e : Env} {o : Oper} {r : Bool} (h : wn ops e o.guard = some r) {n : Nat} {D : List Deferred} {a : Act} (ha : Fr n D e a) :
    Region.wanted o (yielded ops.toArray a.tmps) = r := by
  unfold Region.wanted
  cases hg : o.guard with
  | none => rw [hg] at h; simpa [wn] using h
  | some g =>
    obtain ⟨j, b⟩ := g
    rw [hg] at h
    simp only [wn] at h
    cases hj : ops[j]? with
    | none => simp [hj] at h
    | some oj =>
      simp only [hj] at h
      cases hd : oj.dst with
      | none => simp [hd] at h
      | some d =>
        simp only [hd] at h
        cases hl : lk e d with
        | none => simp [hl] at h
        | some u =>
          simp only [hl] at h
          have hu := ha.get d u hl
          have hy : yielded ops.toArray a.tmps j = match u with | .bool c => some c | _ => none := by
            unfold yielded
            simp only [List.getElem?_toArray, hj, Option.bind_some, hd, hu]
            cases u <;> rfl
          simp only [hy]
          cases u with
          | bool c => cases c <;> cases b <;> (simp only [wb, Option.some.injEq] at h; subst h; rfl)
          | tuple t => simpa [wb] using h
          | _ => simp [wb] at h

/-! ### Undrawn regions -/
structure WU (P : Program) (n : Nat) (ops : List Oper) (Q : Post) (l : List Oper) (D : List Deferred) (e : Env) (w : World) : Prop where
  out : ∀ a, Fr n D e a → wpList P ops.toArray (post n Q) l a w
/-- Drawn ones: 'L' the order. -/
structure WD (P : Program) (n : Nat) (ops : List Oper) (Q : Post) (L : List (Nat × Kn)) (D : List Deferred) (e : Env) (w : World) : Prop where
  out : ∀ a, Fr n D e a → wpL P ops.toArray (post n Q) (pick ops.toArray L) a w

section
variable {P : Program} {n : Nat} {ops : List Oper} {Q : Post} {D : List Deferred} {e : Env} {w : World}

theorem W.reg {id : Nat} {l : List Oper} (h : WU P n l Q l D e w) : W P n (.region id l.toArray false) Q D e w := ⟨fun a ha => wp_region_lit (h.out a ha)⟩
theorem W.regD [Mixed P] {id : Nat} {l : List Oper} (L : List (Nat × Kn)) (hs : Region.noSelect l.toArray = true) (hL : ordOk .any l.toArray L (Array.replicate l.length false) = true)
    (hlen : L.length = l.length) (h : ∀ w', Ext w w' → (w'.heap = w.heap) → WD P n l Q L D e w') : W P n (.region id l.toArray true) Q D e w :=
  W.regionD L hs hL hlen fun w' x y => (h w' x y).out

theorem WU.nil (h : Q .normal D e w) : WU P n ops Q [] D e w := ⟨fun _ ha => ⟨D, e, ha, h⟩⟩

theorem upon_of_stp {o : Oper} {a : Act} {R : Value → World → Prop} (ha : Fr n D e a) (h : Stp P e o w R) {K : Act → World → Prop} {Q' : Exit → Act → World → Prop}
    (hk : ∀ v w', R v w' → K (a.put o.dst v) w') : o.wp P a w K Q' := by
  have h1 := h.out a.eval ha.ag
  unfold Oper.wp
  generalize (execOp a.eval o).run P w = r at *
  cases r with
  | ok nx w' =>
    cases nx <;> simp only at h1 <;> simp only [Oper.upon]
    case value v => exact hk _ _ h1
    case skip => exact hk _ _ h1
    case enter f args =>
      refine h1.mono fun x w'' hx => ?_
      obtain ⟨v, rfl, hr⟩ := hx
      exact hk _ _ hr
  | halt x w' => exact h1.elim

theorem WU.stp {o : Oper} {rest : List Oper} {d : Nat} {R : Value → World → Prop} (hd : o.dst = some d) (hl : Nat.blt d n = true) (hg : wn ops e o.guard = some true) (h : Stp P e o w R)
    (hk : ∀ v w', R v w' → WU P n ops Q rest D ((d, v) :: e) w') : WU P n ops Q (o :: rest) D e w := ⟨fun a ha => by
  unfold wpList
  rw [wn_spec hg ha, if_pos rfl]
  exact .inl (upon_of_stp ha h fun v w' hr => (hk v w' hr).out _ (by rw [hd]; exact ha.put (by simpa [Nat.blt_eq] using hl) v))⟩
/-- an operation without a result -/
theorem WU.stp0 {o : Oper} {rest : List Oper} {R : Value → World → Prop} (hd : o.dst = none) (hg : wn ops e o.guard = some true) (h : Stp P e o w R)
    (hk : ∀ v w', R v w' → WU P n ops Q rest D e w') : WU P n ops Q (o :: rest) D e w := ⟨fun a ha => by
  unfold wpList
  rw [wn_spec hg ha, if_pos rfl]
  exact .inl (upon_of_stp ha h fun v w' hr => (hk v w' hr).out _ (by rw [hd]; exact ha))⟩

theorem WU.skip {o : Oper} {rest : List Oper} {d : Nat} (hd : o.dst = some d) (hl : Nat.blt d n = true) (hg : wn ops e o.guard = some false) (hk : WU P n ops Q rest D ((d, undef) :: e) w) :
    WU P n ops Q (o :: rest) D e w := ⟨fun a ha => by
  unfold wpList
  rw [wn_spec hg ha]
  simp only [Bool.false_eq_true, if_false]
  exact hk.out _ (by rw [hd]; exact ha.put (by simpa [Nat.blt_eq] using hl) _)⟩

theorem WU.yld {o : Oper} {rest : List Oper} {d : Nat} {v : Value} (hd : o.dst = some d) (hl : Nat.blt d n = true) (hg : wn ops e o.guard = some true) (h : Yld P e o v w)
    (hk : WU P n ops Q rest D ((d, v) :: e) w) : WU P n ops Q (o :: rest) D e w :=
  WU.stp hd hl hg h.stp fun _ _ ⟨h1, h2⟩ => by rw [h1, h2]; exact hk

theorem WU.nilk {K : List Deferred → Env → World → Prop} (h : K D e w) : WU P n ops (thn K Q) [] D e w := ⟨fun _ ha => ⟨D, e, ha, h⟩⟩

theorem WD.nil (h : Q .normal D e w) : WD P n ops Q [] D e w := ⟨fun _ ha => ⟨D, e, ha, h⟩⟩

theorem WD.nilk {K : List Deferred → Env → World → Prop} (h : K D e w) : WD P n ops (thn K Q) [] D e w := ⟨fun _ ha => ⟨D, e, ha, h⟩⟩

theorem WD.yld {i : Nat} {b : Kn} {o : Oper} {r : List (Nat × Kn)} {d : Nat} {v : Value} (hi : ops[i]? = some o) (hd : o.dst = some d) (hl : Nat.blt d n = true) (hg : wn ops e o.guard = some true) (h : Yld P e o v w)
    (hk : WD P n ops Q r D ((d, v) :: e) w) : WD P n ops Q ((i, b) :: r) D e w := ⟨fun a ha => by
  have hi' : ops.toArray[i]? = some o := by simpa using hi
  have hp : Fr n D ((d, v) :: e) (a.put o.dst v) := by rw [hd]; exact ha.put (by simpa [Nat.blt_eq] using hl) v
  simp only [pick, hi', Option.getD_some]
  cases b with
  | q => exact ⟨v, .inl ⟨wn_spec hg ha, fun w' hx => h.out _ ha.ag w' hx⟩, hk.out _ hp⟩
  | l =>
    simp only [wpL]
    rw [wn_spec hg ha, if_pos rfl]
    exact upon_of_stp ha h.stp fun v' w' ⟨h1, h2⟩ => by rw [h1, h2]; exact ⟨Ext.rfl' w, hk.out _ hp⟩
  | z =>
    simp only [wpL]
    rw [wn_spec hg ha, if_pos rfl]
    exact upon_of_stp ha h.stp fun v' w' ⟨h1, h2⟩ => by rw [h1, h2]; exact hk.out _ hp⟩

theorem WD.skip {i : Nat} {b : Kn} {o : Oper} {r : List (Nat × Kn)} {d : Nat} (hi : ops[i]? = some o) (hd : o.dst = some d) (hl : Nat.blt d n = true) (hg : wn ops e o.guard = some false)
    (hk : WD P n ops Q r D ((d, undef) :: e) w) : WD P n ops Q ((i, b) :: r) D e w := ⟨fun a ha => by
  have hi' : ops.toArray[i]? = some o := by simpa using hi
  have hp : Fr n D ((d, undef) :: e) (a.put o.dst undef) := by rw [hd]; exact ha.put (by simpa [Nat.blt_eq] using hl) _
  simp only [pick, hi', Option.getD_some]
  cases b with
  | q => exact ⟨undef, .inr ⟨wn_spec hg ha, rfl⟩, hk.out _ hp⟩
  | l =>
    simp only [wpL]
    rw [wn_spec hg ha]
    simp only [Bool.false_eq_true, if_false]
    exact hk.out _ hp
  | z =>
    simp only [wpL]
    rw [wn_spec hg ha]
    simp only [Bool.false_eq_true, if_false]
    exact hk.out _ hp⟩

theorem WD.stp {i : Nat} {o : Oper} {r : List (Nat × Kn)} {d : Nat} {R : Value → World → Prop} (hi : ops[i]? = some o) (hd : o.dst = some d) (hl : Nat.blt d n = true) (hg : wn ops e o.guard = some true) (h : Stp P e o w R)
    (hk : ∀ v w', R v w' → Ext w w' ∧ WD P n ops Q r D ((d, v) :: e) w') : WD P n ops Q ((i, .l) :: r) D e w := ⟨fun a ha => by
  have hi' : ops.toArray[i]? = some o := by simpa using hi
  simp only [pick, hi', Option.getD_some, wpL]
  rw [wn_spec hg ha, if_pos rfl]
  exact upon_of_stp ha h fun v w' hr => ⟨(hk v w' hr).1, (hk v w' hr).2.out _ (by rw [hd]; exact ha.put (by simpa [Nat.blt_eq] using hl) v)⟩⟩

/-- the last one, without a result (a store) -/
theorem WD.last0 {i : Nat} {o : Oper} {r : List (Nat × Kn)} {R : Value → World → Prop} (hi : ops[i]? = some o) (hd : o.dst = none) (hg : wn ops e o.guard = some true) (h : Stp P e o w R)
    (hk : ∀ v w', R v w' → WD P n ops Q r D e w') : WD P n ops Q ((i, .z) :: r) D e w := ⟨fun a ha => by
  have hi' : ops.toArray[i]? = some o := by simpa using hi
  simp only [pick, hi', Option.getD_some, wpL]
  rw [wn_spec hg ha, if_pos rfl]
  exact upon_of_stp ha h fun v w' hr => (hk v w' hr).out _ (by rw [hd]; exact ha)⟩
end
end Go.Kd
namespace Go.Kd
variable {P : Program} {e : Env} {w : World} {d : Option Tmp} {ty : TypeId} {pos : String} {aft : Array Edge} {g : Option (Nat × Bool)}

theorem yld_move {x : Operand} {v : Value} (hx : ev e x = some v) : Yld P e ⟨d, .move x, ty, pos, aft, g⟩ v w := ⟨fun ρ hρ w' _ => by
  rw [← hρ x v hx]; rfl⟩
theorem yld_assign {x : Operand} {v : Value} (hx : ev e x = some v) : Yld P e ⟨d, .assign x, ty, pos, aft, g⟩ v w := ⟨fun ρ hρ w' _ => by
  rw [← hρ x v hx]; rfl⟩
theorem yld_pick {c x y : Operand} {b : Bool} {u v : Value} (hc : ev e c = some (.bool b)) (hx : ev e x = some u) (hy : ev e y = some v) :
    Yld P e ⟨d, .pick c x y, ty, pos, aft, g⟩ (if b then u else v) w := ⟨fun ρ hρ w' _ => by
  simp only [execOp, hρ c _ hc, hρ x _ hx, hρ y _ hy]; rfl⟩
theorem yld_pick_t {c x y : Operand} {u : Value} (hc : ev e c = some (.bool true)) (hx : ev e x = some u) :
    Yld P e ⟨d, .pick c x y, ty, pos, aft, g⟩ u w := ⟨fun ρ hρ w' _ => by
  simp only [execOp, hρ c _ hc, hρ x _ hx]; rfl⟩
theorem yld_pick_f {c x y : Operand} {v : Value} (hc : ev e c = some (.bool false)) (hy : ev e y = some v) :
    Yld P e ⟨d, .pick c x y, ty, pos, aft, g⟩ v w := ⟨fun ρ hρ w' _ => by
  simp only [execOp, hρ c _ hc, hρ y _ hy]; rfl⟩
theorem yld_nilCheck {x : Operand} {a : Addr} (hx : ev e x = some (.pointer (some a))) :
    Yld P e ⟨d, .nilCheck x, ty, pos, aft, g⟩ (.pointer (some a)) w := ⟨fun ρ hρ w' _ => by
  simp only [execOp, hρ x _ hx]; rfl⟩
theorem yld_nilCheck_iface {x : Operand} {t : TypeId} {v : Value} (hx : ev e x = some (.iface t v)) :
    Yld P e ⟨d, .nilCheck x, ty, pos, aft, g⟩ (.iface t v) w := ⟨fun ρ hρ w' _ => by
  simp only [execOp, hρ x _ hx]; rfl⟩
theorem yld_extract {x : Operand} {i : Nat} {vs : Array Value} {v : Value} (hx : ev e x = some (.tuple vs)) (hv : vs[i]? = some v) :
    Yld P e ⟨d, .extract x i, ty, pos, aft, g⟩ v w := ⟨fun ρ hρ w' _ => by
  simp only [execOp, hρ x _ hx, Instr.extract, hv]; rfl⟩
theorem yld_makeInterface {t : TypeId} {x : Operand} {v : Value} {D : TypeDesc} [h : Und P t D] (hD : (match D with | .interface _ => false | _ => true) = true) (hx : ev e x = some v) :
    Yld P e ⟨d, .makeInterface t x, ty, pos, aft, g⟩ (.iface t v) w := ⟨fun ρ hρ w' _ => by
  have hu := h.at_
  simp only [execOp, hρ x _ hx, Instr.makeInterface]
  cases D <;> first
    | (simp at hD; done)
    | (simp [underlying, program, hu, Sem.run, bind, Sem.bind, pure])⟩
theorem run_sizeOf {t : TypeId} {i : TypeInfo} (h : P.info? t = some i) (w : World) : (sizeOf t).run P w = .ok i.size w := by
  simp [sizeOf, typeInfo, program, h, Sem.run, bind, Sem.bind, pure]

theorem yld_fieldAddr {s : TypeId} {x : Operand} {f off b o : Nat} [h : Fld P s f off] (hx : ev e x = some (.pointer (some ⟨b, o, none⟩))) :
    Yld P e ⟨d, .fieldAddr s x f, ty, pos, aft, g⟩ (.pointer (some ⟨b, o + off, none⟩)) w := ⟨fun ρ hρ w' _ => by
  obtain ⟨fs, fd, i, h1, h2, h3, h4, h5⟩ := h.at_
  have hadd : (⟨b, o, none⟩ : Addr).add off = ⟨b, o + off, none⟩ := Addr.add_mid ..
  simp [execOp, hρ x _ hx, Instr.fieldAt, Instr.sureAddr, fieldPlace, underlying, sizeOf, typeInfo, program, h1, h2, h3, h4, h5, hadd, Sem.run, bind, Sem.bind, pure]⟩

/-- a cell -/
theorem cell_of {b : Nat} {cs : Array Value} {t : TypeId} {fz : Nat × Nat} {i : Nat} {v : Value} {w : World} (h : Has w b (.cells cs t fz)) (hv : cs[i]? = some v) :
    w.cell? ⟨b, i, none⟩ = some v := by
  simp [World.cell?, h.at_, hv]

def getO : List Value → Nat → Option Value
  | [], _ => none
  | v :: _, 0 => some v
  | _ :: r, n + 1 => getO r n
theorem getO_eq : ∀ (l : List Value) (i : Nat), getO l i = l[i]?
  | [], _ => rfl
  | _ :: _, 0 => rfl
  | _ :: r, n + 1 => by simp [getO, getO_eq r n]

theorem yld_load_cell {t : TypeId} {x : Operand} {b i : Nat} {v : Value} [h : Scl P t] (hx : ev e x = some (.pointer (some ⟨b, i, none⟩)))
    {l : List Value} {t' : TypeId} {fz : Nat × Nat} [hb : Has w b (.cells l.toArray t' fz)] (hv : getO l i = some v) :
    Yld P e ⟨d, .load t x, ty, pos, aft, g⟩ v w := ⟨fun ρ hρ w' hw => by
  obtain ⟨D, inf, h1, h2, h3, h4⟩ := h.at_
  have hc := cell_of (i := i) (v := v) (hb.ext' hw) (by simpa [getO_eq] using hv)
  simp only [execOp, hρ x _ hx, Instr.loadAt, Instr.sureAddr, loadVar, isAgg]
  cases D <;> first
    | (simp at h2; done)
    | (simp [underlying, program, h1, Sem.run, bind, Sem.bind, pure, load, hc])⟩


/-- a struct that is a whole block, or a part of one -/
theorem yld_load_part {t : TypeId} {x : Operand} {b o : Nat} {l : List Value} [h : Agt P t l.length] (hx : ev e x = some (.pointer (some ⟨b, o, none⟩)))
    {cs : Array Value} {t' : TypeId} {fz : Nat × Nat} [hb : Has w b (.cells cs t' fz)] (hl : ∀ j v, l[j]? = some v → cs[o + j]? = some v) :
    Yld P e ⟨d, .load t x, ty, pos, aft, g⟩ (.agg l.toArray) w := ⟨fun ρ hρ w' hw => by
  obtain ⟨D, i, h1, h2, h3, h4⟩ := h.at_
  have := run_loadVar_mid (P := P) w' b o t l D (fun j v hj => cell_of (hb.ext' hw) (hl j v hj)) h1 (by cases D <;> simp_all) (by simp [h3, h4])
  simp [execOp, hρ x _ hx, Instr.loadAt, Instr.sureAddr, this]⟩

theorem yld_load_whole {t : TypeId} {x : Operand} {b : Nat} {l : List Value} [h : Agt P t l.length] (hx : ev e x = some (.pointer (some ⟨b, 0, none⟩)))
    {t' : TypeId} {fz : Nat × Nat} [hb : Has w b (.cells l.toArray t' fz)] :
    Yld P e ⟨d, .load t x, ty, pos, aft, g⟩ (.agg l.toArray) w := yld_load_part hx (fun j v hj => by simpa using hj)

/-! ### New blocks -/
class Inf (P : Program) (t : TypeId) (sz : outParam Nat) : Prop where
  at_ : ∃ i, P.info? t = some i ∧ i.size = sz
class Zro (P : Program) (t : TypeId) (z : outParam (List Value)) : Prop where
  at_ : ∃ i v, P.info? t = some i ∧ i.zero = some v ∧ v.cells = z.toArray

class New (w : semiOutParam World) (b : semiOutParam Nat) (o : semiOutParam Obj) (w' : World) : Prop where
  num : b = w.heap.size
  has : Has w' b o
  ext : Ext w w'
  size : w'.heap.size = w.heap.size + 1

instance New.has' {w : World} {b : Nat} {o : Obj} {w' : World} [h : New w b o w'] : Has w' b o := h.has

instance New.ext' {w : World} {b : Nat} {o : Obj} {w' : World} [h : New w b o w'] : Ext w w' := h.ext

theorem New.alloc (w : World) (o : Obj) : New w w.heap.size o (w.alloc o) :=
  ⟨rfl, ⟨by show (w.heap.push o)[w.heap.size]? = some o; simp⟩, ⟨(RowKit.Below.refl _ _).alloc (Nat.le_refl _) o⟩, by simp⟩

def isNew (w : World) (o : Obj) (v : Value) (w' : World) : Prop := ∃ b, v = .pointer (some ⟨b, 0, none⟩) ∧ New w b o w'

theorem stp_alloc {t : TypeId} {z : List Value} [h : Zro P t z] : Stp P e ⟨d, .alloc t, ty, pos, aft, g⟩ w (isNew w (.cells z.toArray t)) := ⟨fun ρ _ => by
  obtain ⟨i, v, h1, h2, h3⟩ := h.at_
  simp only [execOp, Instr.alloc, zeroValue, typeInfo, program, newVar, newRow, newObj, bind, Sem.bind, Sem.run, h1, pure, h2, h3]
  exact ⟨_, rfl, New.alloc w _⟩⟩

/-! ### Structs written out -/
def setO : List Value → Nat → Value → Option (List Value)
  | [], _, _ => none
  | _ :: zs, 0, c => some (c :: zs)
  | z :: zs, n + 1, c => match setO zs n c with
    | some r => some (z :: r)
    | none => none
def putO : List Value → Nat → List Value → Option (List Value)
  | zs, _, [] => some zs
  | zs, off, c :: cs => match setO zs off c with
    | some r => putO r (off + 1) cs
    | none => none
def cellsL : Value → List Value
  | .agg cs => cs.toList
  | v => [v]
def fillO (pl : List (Nat × Nat)) : List Value → List (Nat × Value) → Option (List Value)
  | zs, [] => some zs
  | zs, (i, v) :: r => match pl[i]? with
    | some (off, size) => match cellsL v with
      | [] => none
      | c :: cs => match Nat.beq (c :: cs).length size with
        | true => match putO zs off (c :: cs) with
          | some zs' => fillO pl zs' r
          | none => none
        | false => none
    | none => none

theorem setO_spec : ∀ (zs : List Value) (n : Nat) (c : Value) (r : List Value), setO zs n c = some r → n < zs.length ∧ r = zs.set n c
  | [], _, _, _, h => by simp [setO] at h
  | z :: zs, 0, c, r, h => by simp [setO] at h; simp [h]
  | z :: zs, n + 1, c, r, h => by
    simp only [setO] at h
    cases hs : setO zs n c with
    | none => simp [hs] at h
    | some r' =>
      obtain ⟨h1, h2⟩ := setO_spec zs n c r' hs
      simp [hs] at h
      subst h; subst h2
      exact ⟨by simp; omega, rfl⟩

theorem putO_spec : ∀ (cs zs : List Value) (off : Nat) (r : List Value), putO zs off cs = some r →
    off + cs.length ≤ zs.length ∨ cs = [] ∧ r = zs := by
  intro cs
  induction cs with
  | nil => intro zs off r h; right; simp [putO] at h; simp [h]
  | cons c cs ih =>
    intro zs off r h
    simp only [putO] at h
    cases hs : setO zs off c with
    | none => simp [hs] at h
    | some zs' =>
      obtain ⟨h1, h2⟩ := setO_spec _ _ _ _ hs
      simp only [hs] at h
      left
      rcases ih zs' (off + 1) r h with h3 | ⟨rfl, _⟩
      · subst h2; simp at h3 ⊢; omega
      · simp; omega

theorem putO_fold (cs : List Value) : ∀ (zs : List Value) (off k : Nat) (r : List Value), putO zs (off + k) cs = some r →
    (cs.zipIdx k).foldl (fun (a : Array Value) (c, j) => a.setIfInBounds (off + j) c) zs.toArray = r.toArray := by
  induction cs with
  | nil => intro zs off k r h; simp [putO] at h; simp [h]
  | cons c cs ih =>
    intro zs off k r h
    simp only [putO] at h
    cases hs : setO zs (off + k) c with
    | none => simp [hs] at h
    | some zs' =>
      obtain ⟨h1, h2⟩ := setO_spec _ _ _ _ hs
      simp only [hs] at h
      have := ih zs' off (k + 1) r (by rw [← Nat.add_assoc]; exact h)
      simp only [List.zipIdx_cons, List.foldl_cons]
      rw [← this, h2]
      simp

theorem cells_eq (v : Value) : v.cells = (cellsL v).toArray := by cases v <;> simp [Value.cells, cellsL]

theorem fillO_spec (place : Nat → Option (Nat × Nat)) (pl : List (Nat × Nat)) (hp : ∀ i, pl[i]? = place i) : ∀ (ps : List (Nat × Value)) (zs r : List Value), fillO pl zs ps = some r →
    Instr.fill place zs.toArray ps = some r.toArray := by
  intro ps
  induction ps with
  | nil => intro zs r h; simp [fillO] at h; simp [Instr.fill, h]
  | cons q ps ih =>
    intro zs r h
    obtain ⟨i, v⟩ := q
    simp only [fillO] at h
    rw [hp] at h
    cases hpl : place i with
    | none => simp [hpl] at h
    | some os =>
      obtain ⟨off, size⟩ := os
      simp only [hpl] at h
      cases hcl : cellsL v with
      | nil => simp [hcl] at h
      | cons c cs =>
        simp only [hcl] at h
        cases hb : Nat.beq (c :: cs).length size with
        | false => simp only [hb] at h; cases h
        | true =>
          simp only [hb] at h
          have hsz := Nat.eq_of_beq_eq_true hb
          cases hq : putO zs off (c :: cs) with
          | none => simp [hq] at h
          | some zs' =>
            simp only [hq] at h
            have hf := putO_fold (c :: cs) zs off 0 zs' hq
            rcases putO_spec _ _ _ _ hq with h1 | ⟨h1, _⟩
            · simp only [Instr.fill, hpl, cells_eq, hcl, List.size_toArray]
              rw [if_neg (by rw [hsz] at h1 ⊢; simp; omega)]
              have hz : ((c :: cs).toArray.zipIdx.foldl (fun (a : Array Value) (x : Value × Nat) => a.setIfInBounds (off + x.2) x.1) zs.toArray) = zs'.toArray := by
                rw [← Array.foldl_toList]
                simpa using hf
              exact hz ▸ ih _ _ h
            · cases h1

class Plc (P : Program) (t : TypeId) (pl : outParam (List (Nat × Nat))) : Prop where
  at_ : ∃ fs : Array Field, P.underlying t = some (.struct fs) ∧ fs.toList.mapM (fun f => (P.info? f.type).map fun i => (f.offset, i.size)) = some pl

def evP (e : Env) : List (Nat × Operand) → Option (List (Nat × Value))
  | [] => some []
  | (i, x) :: r => match ev e x with
    | some v => match evP e r with
      | some vs => some ((i, v) :: vs)
      | none => none
    | none => none
def evs (e : Env) : List Operand → Option (List Value)
  | [] => some []
  | x :: r => match ev e x with
    | some v => match evs e r with
      | some vs => some (v :: vs)
      | none => none
    | none => none

theorem evs_spec {ρ : Operand → Value} {e : Env} (h : Ag ρ e) : ∀ (l : List Operand) (vs : List Value), evs e l = some vs → l.map ρ = vs
  | [], vs, hv => by simp [evs] at hv; simp [hv]
  | x :: r, vs, hv => by
    simp only [evs] at hv
    cases hx : ev e x with
    | none => simp [hx] at hv
    | some v =>
      cases hr : evs e r with
      | none => simp [hx, hr] at hv
      | some us =>
        simp [hx, hr] at hv
        subst hv
        simp [h x v hx, evs_spec h r us hr]
theorem evP_spec {ρ : Operand → Value} {e : Env} (h : Ag ρ e) : ∀ (l : List (Nat × Operand)) (vs : List (Nat × Value)), evP e l = some vs → (l.map fun (i, x) => (i, ρ x)) = vs
  | [], vs, hv => by simp [evP] at hv; simp [hv]
  | (i, x) :: r, vs, hv => by
    simp only [evP] at hv
    cases hx : ev e x with
    | none => simp [hx] at hv
    | some v =>
      cases hr : evP e r with
      | none => simp [hx, hr] at hv
      | some us =>
        simp [hx, hr] at hv
        subst hv
        simp [h x v hx, evP_spec h r us hr]

theorem yld_build {t : TypeId} {parts : List (Nat × Operand)} {pl : List (Nat × Nat)} {z r : List Value} {ps : List (Nat × Value)} [h : Plc P t pl] [hz : Zro P t z]
    (hp : evP e parts = some ps) (hf : fillO pl z ps = some r) : Yld P e ⟨d, .build t parts.toArray, ty, pos, aft, g⟩ (.agg r.toArray) w := ⟨fun ρ hρ w' _ => by
  obtain ⟨fs, h1, h2⟩ := h.at_
  obtain ⟨i, v, h4, h5, h6⟩ := hz.at_
  have hps := evP_spec hρ parts ps hp
  have hfill := fillO_spec (fun j => pl.toArray[j]?) pl (fun j => by simp) ps z r hf
  have hb : P.built t ps = some r.toArray := by
    unfold Program.built
    simp only [h4, h1, h5, h2, h6]
    exact hfill
  have hrun := run_build (P := P) w' t (parts.toArray.map fun (i, x) => (i, ρ x)) r.toArray (by
    rw [← hb, ← hps]; congr 1; simp)
  simp only [execOp, Sem.run_bind, hrun, Result.andThen_ok]
  rfl⟩

def frc : List Value → Option (List Value)
  | [] => some []
  | x :: xs => match frc xs with
    | some r => some (x :: r)
    | none => none
theorem frc_eq : ∀ l, frc l = some l
  | [] => rfl
  | x :: xs => by simp [frc, frc_eq xs]
def fillB (len sz : Nat) (z : List Value) (ps : List (Nat × Value)) : Option (List Value) :=
  match frc (List.replicate len z).flatten with
  | some b => fillO ((List.range len).map fun i => (i * sz, sz)) b ps
  | none => none

theorem flat_get (z : List Value) (sz : Nat) (hz : z.length = sz) (hs : 0 < sz) : ∀ (len j : Nat), j < len * sz → (List.replicate len z).flatten[j]? = z[j % sz]?
  | 0, j, h => by omega
  | len + 1, j, h => by
    simp only [List.replicate_succ, List.flatten_cons, List.getElem?_append]
    by_cases hj : j < z.length
    · rw [if_pos hj, Nat.mod_eq_of_lt (by omega)]
    · rw [if_neg hj, flat_get z sz hz hs len (j - z.length) (by rw [Nat.succ_mul] at h; omega), hz, Nat.mod_eq_sub_mod (by omega : j ≥ sz)]

theorem flat_len (z : List Value) (len : Nat) : (List.replicate len z).flatten.length = len * z.length := by
  induction len with
  | zero => simp
  | succ n ih => simp [List.replicate_succ, Nat.succ_mul]; omega

theorem stp_box {t : TypeId} {x : Operand} {v : Value} {l : List Value} (hx : ev e x = some v) (hl : frc (cellsL v) = some l) : Stp P e ⟨d, .box t x, ty, pos, aft, g⟩ w (isNew w (.cells l.toArray t)) := ⟨fun ρ hρ => by
  simp only [execOp, Instr.box, newVar, newRow, newObj, bind, Sem.bind, Sem.run, pure, hρ x v hx, cells_eq]
  rw [frc_eq] at hl
  rw [Option.some.inj hl]
  exact ⟨_, rfl, New.alloc w _⟩⟩
theorem stp_box1 {t : TypeId} {x : Operand} {v : Value} (hx : ev e x = some v) (hv : v.oneCell' = true) : Stp P e ⟨d, .box t x, ty, pos, aft, g⟩ w (isNew w (.cells #[v] t)) := ⟨fun ρ hρ => by
  have hc : v.cells = #[v] := by cases v <;> simp_all [Value.cells, Value.oneCell']
  simp only [execOp, Instr.box, newVar, newRow, newObj, bind, Sem.bind, Sem.run, pure, hρ x v hx, hc]
  exact ⟨_, rfl, New.alloc w _⟩⟩

/-- []T{..}: a new row -/
theorem stp_buildSlice {t el : TypeId} {len : Nat} {parts : List (Nat × Operand)} {sz : Nat} {z r : List Value} {ps : List (Nat × Value)} [h : Und P t (.slice el)] [hz : Zro P el z]
    [hi : Inf P el sz] (hlen : Nat.ble (len * sz) 1000 = true) (hpos : Nat.blt 0 (len * sz) = true) (hzl : Nat.beq z.length sz = true)
    (hp : evP e parts = some ps) (hf : fillB len sz z ps = some r) :
    Stp P e ⟨d, .buildSlice t len parts.toArray, ty, pos, aft, g⟩ w
      (fun v w' => ∃ b, v = .slice (some ⟨b, 0, none⟩) len len ∧ New w b (.cells r.toArray el) w') := ⟨fun ρ hρ => by
  obtain ⟨i, v, h4, h5, h6⟩ := hz.at_
  obtain ⟨i', h7, h8⟩ := hi.at_
  have hps := evP_spec hρ parts ps hp
  have hu := h.at_
  obtain rfl : i = i' := by rw [h4] at h7; exact Option.some.inj h7
  have hpos' : 0 < len * sz := by simpa [Nat.blt_eq] using hpos
  have hlen' : len * sz ≤ 1000 := by simpa [Nat.ble_eq] using hlen
  have hs0 : 0 < sz := Nat.pos_of_mul_pos_left hpos'
  have hzl' : z.length = sz := Nat.eq_of_beq_eq_true hzl
  simp only [fillB, frc_eq] at hf
  have hbase : (Array.range (len * sz)).map (fun j => v.cells[j % v.cells.size]!) = (List.replicate len z).flatten.toArray := by
    apply Array.ext_getElem?
    intro j
    by_cases hj : j < len * sz
    · have h1 := flat_get z sz hzl' hs0 len j hj
      have h2 : j % sz < z.length := by rw [hzl']; exact Nat.mod_lt _ hs0
      simp only [List.getElem?_toArray, h1, h6, List.size_toArray, hzl']
      simp [hj, h2]
    · have h1 : (List.replicate len z).flatten.length = len * sz := by rw [flat_len, hzl']
      simp [hj, hzl']
  have hplace : ∀ j, ((List.range len).map fun i => (i * sz, sz))[j]? = if j < len then some (j * sz, sz) else none := fun j => by
    by_cases hj : j < len <;> simp [hj]
  have hfill := fillO_spec (fun j => if j < len then some (j * sz, sz) else none) _ hplace ps _ r hf
  have hfill2 : Instr.fill (fun i => some (i * sz, sz)) (List.replicate len z).flatten.toArray ps = some r.toArray := fill_more _ _ (fun j os hj => by
    by_cases hl : j < len
    · simpa [hl] using hj
    · simp [hl] at hj) _ _ _ hfill
  have hpa : (parts.toArray.map fun (i, x) => (i, ρ x)).toList = ps := by rw [← hps]; simp
  have e1 : ¬ (len * sz > 2 ^ 24) := by omega
  have e2 : ¬ (len * sz = 0) := by omega
  simp only [execOp, Instr.buildSlice, underlying, program, sizeOf, typeInfo, zeroValue, newRow, newObj, bind, Sem.bind, Sem.run, pure, hu, h7, h8, e1, e2, if_false, h5]
  simp only [Sem.bind, hbase, hpa, hfill2, Sem.run]
  exact ⟨_, rfl, New.alloc w _⟩⟩
where
  fill_more (f f' : Nat → Option (Nat × Nat)) (hff : ∀ j os, f j = some os → f' j = some os) : ∀ (ps : List (Nat × Value)) (cs r : Array Value), Instr.fill f cs ps = some r → Instr.fill f' cs ps = some r
    | [], cs, r, h => h
    | (i, v) :: ps, cs, r, h => by
      simp only [Instr.fill] at h ⊢
      cases hfi : f i with
      | none => simp [hfi] at h
      | some os =>
        obtain ⟨off, size⟩ := os
        rw [hff i _ hfi]
        simp only [hfi] at h
        simp only
        split
        · rename_i hc; rw [if_pos hc] at h; cases h
        · rename_i hc; rw [if_neg hc] at h; exact fill_more f f' hff ps _ r h

/-! ### Calls -/
def Ret (R : Value → World → Prop) (x : Ending) (w : World) : Prop := ∃ v, x = .returned v ∧ R v w

theorem stp_call {k : FuncId} {args : List Operand} {tys : Array TypeId} {vs : List Value} {R : Value → World → Prop} [h : Fun P k] (ha : evs e args = some vs) (hc : Calls P k vs.toArray w (Ret R)) :
    Stp P e ⟨d, .call ⟨.value (.func k), args.toArray, tys⟩, ty, pos, aft, g⟩ w R := ⟨fun ρ hρ => by
  obtain ⟨fn, h1, h2, h3⟩ := h.at_
  have hv : args.toArray.map ρ = vs.toArray := by rw [← evs_spec hρ args vs ha]; simp
  have hf : ρ (.func k) = .func (.func k) #[] #[] := hρ _ _ rfl
  simp only [execOp, resolve, hv, hf, Deferred.ofValue, invoke, callFunc, program, bind, Sem.bind, Sem.run, pure, h1, h2, h3, Bool.false_eq_true, if_false, Array.append_empty, Array.empty_append]
  exact hc⟩

theorem stp_invoke {recv : Operand} {name : String} {args : List Operand} {tys : Array TypeId} {T : TypeId} {v : Value} {vs : List Value} {k : FuncId} {R : Value → World → Prop}
    [hm : Mth P T name k] [h : Fun P k] (hr : ev e recv = some (.iface T v)) (ha : evs e args = some vs) (hc : Calls P k (v :: vs).toArray w (Ret R)) :
    Stp P e ⟨d, .call ⟨.invoke recv name, args.toArray, tys⟩, ty, pos, aft, g⟩ w R := ⟨fun ρ hρ => by
  obtain ⟨fn, h1, h2, h3⟩ := h.at_
  obtain ⟨⟨el, hu⟩, i, m, h4, h5, h6, h7⟩ := hm.at_
  have hv : args.toArray.map ρ = vs.toArray := by rw [← evs_spec hρ args vs ha]; simp
  have hf : ρ recv = .iface T v := hρ _ _ hr
  have hmeth : ∀ fuel, (method (fuel + 1) T v name).run P w = .ok (k, v) w := fun fuel => by
    simp only [method, typeInfo, program, bind, Sem.bind, Sem.run, pure, h4, h5, h6, h7, follow, receiverAt, underlying, hu, Place.get]
  have hfuel : P.types.size + Made.depth = (P.types.size + 99) + 1 := by unfold Made.depth; omega
  have hrun : (callMethod (.iface T v) name (#[Value.iface T v] ++ vs.toArray |>.extract 1 (#[Value.iface T v] ++ vs.toArray).size)).run P w = .ok (.enter k (v :: vs).toArray) w := by
    simp only [callMethod, program, hfuel, Sem.run_bind, Sem.run, Result.andThen_ok, hmeth]
    have hx : (#[Value.iface T v] ++ vs.toArray |>.extract 1 (#[Value.iface T v] ++ vs.toArray).size) = vs.toArray := by simp
    rw [hx]
    simp only [callFunc, program, bind, Sem.bind, Sem.run, h1, h2, h3, Bool.false_eq_true, if_false, pure]
    simp
  simp only [execOp, resolve, hv, hf, invoke]
  have hsome : (#[Value.iface T v] ++ vs.toArray)[0]? = some (.iface T v) := by simp
  simp only [Sem.run_bind, Sem.run, pure, Result.andThen_ok, hsome, hrun]
  exact hc⟩
end Go.Kd
namespace Go.Kd
variable {P : Program} {e : Env} {w : World} {d : Option Tmp} {ty t t2 : TypeId} {pos : String} {aft : Array Edge} {g : Option (Nat × Bool)} {x y : Operand}

theorem run_binOp_plain {op : BinOp} {ρ : Operand → Value} {a b : Value} {v : Value} {w' : World} (ha : ρ x = a) (hb : ρ y = b)
    (hg : (eqGuard op t x y a b).run P w' = .ok () w') (h : (binOp op t a b).run P w' = .ok v w') :
    (execOp ρ ⟨d, .binOp op t x y t2, ty, pos, aft, g⟩).run P w' = .ok (.value v) w' := by
  simp only [execOp, Sem.run_bind, ha, hb, hg, Result.andThen_ok, h]
  rfl

theorem eqGuard_int {op : BinOp} {k k' : IntKind} {a b : Int} : (eqGuard op t x y (.int k a) (.int k' b)).run P w = .ok () w := by
  unfold eqGuard; cases op <;> rfl
theorem eqGuard_str {op : BinOp} {a b : ByteArray} : (eqGuard op t x y (.string a) (.string b)).run P w = .ok () w := by
  unfold eqGuard; cases op <;> rfl
theorem eqGuard_bool {op : BinOp} {a b : Bool} : (eqGuard op t x y (.bool a) (.bool b)).run P w = .ok () w := by
  unfold eqGuard; cases op <;> rfl
theorem eqGuard_ptr {op : BinOp} {a b : Option Addr} : (eqGuard op t x y (.pointer a) (.pointer b)).run P w = .ok () w := by
  unfold eqGuard; cases op <;> rfl
theorem eqGuard_map {op : BinOp} {a b : Option Nat} : (eqGuard op t x y (.map a) (.map b)).run P w = .ok () w := by
  unfold eqGuard; cases op <;> rfl
theorem eqGuard_slice {op : BinOp} {a b : Option Addr} {n c n' c' : Nat} : (eqGuard op t x y (.slice a n c) (.slice b n' c')).run P w = .ok () w := by
  unfold eqGuard; cases op <;> rfl
theorem eqGuard_if {op : BinOp} {u u' : TypeId} {a b : Value} : (eqGuard op t x y (.iface u a) (.iface u' b)).run P w = .ok () w := by
  unfold eqGuard; cases op <;> rfl
theorem eqGuard_ifn {op : BinOp} {u : TypeId} {a : Value} : (eqGuard op t x y (.iface u a) .nilIface).run P w = .ok () w := by
  unfold eqGuard; cases op <;> rfl
theorem eqGuard_nif {op : BinOp} {u : TypeId} {a : Value} : (eqGuard op t x y .nilIface (.iface u a)).run P w = .ok () w := by
  unfold eqGuard; cases op <;> rfl
theorem eqGuard_nn {op : BinOp} {v : Value} : (eqGuard op t x (.const v) .nilIface .nilIface).run P w = .ok () w := by
  unfold eqGuard; cases op <;> first | rfl | (cases x <;> rfl)

theorem yld_add {k : IntKind} {a b : Int} (hx : ev e x = some (.int k a)) (hy : ev e y = some (.int k b)) : Yld P e ⟨d, .binOp .add t x y t2, ty, pos, aft, g⟩ (.int k (k.wrap (a + b))) w := ⟨fun ρ hρ w' _ =>
  run_binOp_plain (hρ x _ hx) (hρ y _ hy) eqGuard_int (by simp [binOp, Op.intArith])⟩
theorem yld_add_in {a b : Int} (hx : ev e x = some (.int .i64 a)) (hy : ev e y = some (.int .i64 b)) (h : -9223372036854775808 ≤ a + b ∧ a + b ≤ 9223372036854775807) :
    Yld P e ⟨d, .binOp .add t x y t2, ty, pos, aft, g⟩ (.int .i64 (a + b)) w := by
  have := yld_add (P := P) (w := w) (d := d) (t := t) (t2 := t2) (ty := ty) (pos := pos) (aft := aft) (g := g) hx hy
  rwa [IntWalk.i64_in _ (by omega)] at this

theorem yld_sub {k : IntKind} {a b : Int} (hx : ev e x = some (.int k a)) (hy : ev e y = some (.int k b)) : Yld P e ⟨d, .binOp .sub t x y t2, ty, pos, aft, g⟩ (.int k (k.wrap (a - b))) w := ⟨fun ρ hρ w' _ =>
  run_binOp_plain (hρ x _ hx) (hρ y _ hy) eqGuard_int (by simp [binOp, Op.intArith])⟩
theorem yld_sub_in {a b : Int} (hx : ev e x = some (.int .i64 a)) (hy : ev e y = some (.int .i64 b)) (h : -9223372036854775808 ≤ a - b ∧ a - b ≤ 9223372036854775807) :
    Yld P e ⟨d, .binOp .sub t x y t2, ty, pos, aft, g⟩ (.int .i64 (a - b)) w := by
  have := yld_sub (P := P) (w := w) (d := d) (t := t) (t2 := t2) (ty := ty) (pos := pos) (aft := aft) (g := g) hx hy
  rwa [IntWalk.i64_in _ (by omega)] at this


theorem yld_eql_int {k : IntKind} {a b : Int} (hx : ev e x = some (.int k a)) (hy : ev e y = some (.int k b)) : Yld P e ⟨d, .binOp .eql t x y t2, ty, pos, aft, g⟩ (.bool (a == b)) w := ⟨fun ρ hρ w' _ =>
  run_binOp_plain (hρ x _ hx) (hρ y _ hy) eqGuard_int (by simp [binOp, Op.intCmp])⟩

theorem yld_neq_int {k : IntKind} {a b : Int} (hx : ev e x = some (.int k a)) (hy : ev e y = some (.int k b)) : Yld P e ⟨d, .binOp .neq t x y t2, ty, pos, aft, g⟩ (.bool (a != b)) w := ⟨fun ρ hρ w' _ =>
  run_binOp_plain (hρ x _ hx) (hρ y _ hy) eqGuard_int (by simp [binOp, Op.intCmp])⟩

theorem yld_lss_int {k : IntKind} {a b : Int} (hx : ev e x = some (.int k a)) (hy : ev e y = some (.int k b)) : Yld P e ⟨d, .binOp .lss t x y t2, ty, pos, aft, g⟩ (.bool (decide (a < b))) w := ⟨fun ρ hρ w' _ =>
  run_binOp_plain (hρ x _ hx) (hρ y _ hy) eqGuard_int (by simp [binOp, Op.intCmp])⟩

theorem yld_leq_int {k : IntKind} {a b : Int} (hx : ev e x = some (.int k a)) (hy : ev e y = some (.int k b)) : Yld P e ⟨d, .binOp .leq t x y t2, ty, pos, aft, g⟩ (.bool (decide (a ≤ b))) w := ⟨fun ρ hρ w' _ =>
  run_binOp_plain (hρ x _ hx) (hρ y _ hy) eqGuard_int (by simp [binOp, Op.intCmp])⟩

theorem yld_gtr_int {k : IntKind} {a b : Int} (hx : ev e x = some (.int k a)) (hy : ev e y = some (.int k b)) : Yld P e ⟨d, .binOp .gtr t x y t2, ty, pos, aft, g⟩ (.bool (decide (a > b))) w := ⟨fun ρ hρ w' _ =>
  run_binOp_plain (hρ x _ hx) (hρ y _ hy) eqGuard_int (by simp [binOp, Op.intCmp])⟩

theorem yld_geq_int {k : IntKind} {a b : Int} (hx : ev e x = some (.int k a)) (hy : ev e y = some (.int k b)) : Yld P e ⟨d, .binOp .geq t x y t2, ty, pos, aft, g⟩ (.bool (decide (a ≥ b))) w := ⟨fun ρ hρ w' _ =>
  run_binOp_plain (hρ x _ hx) (hρ y _ hy) eqGuard_int (by simp [binOp, Op.intCmp])⟩

theorem yld_rem {k : IntKind} {a b : Int} (hx : ev e x = some (.int k a)) (hy : ev e y = some (.int k b)) (hb : b ≠ 0) : Yld P e ⟨d, .binOp .rem t x y t2, ty, pos, aft, g⟩ (.int k (a.tmod b)) w := ⟨fun ρ hρ w' _ =>
  run_binOp_plain (hρ x _ hx) (hρ y _ hy) eqGuard_int (by simp [binOp, Op.intDiv, hb])⟩
theorem yld_and {k : IntKind} {a b : Int} (hx : ev e x = some (.int k a)) (hy : ev e y = some (.int k b)) : Yld P e ⟨d, .binOp .and t x y t2, ty, pos, aft, g⟩ (.int k (k.wrap (BitVec.ofInt k.bits a &&& BitVec.ofInt k.bits b).toNat)) w := ⟨fun ρ hρ w' _ =>
  run_binOp_plain (hρ x _ hx) (hρ y _ hy) eqGuard_int (by simp [binOp, Op.intBits])⟩
theorem yld_or {k : IntKind} {a b : Int} (hx : ev e x = some (.int k a)) (hy : ev e y = some (.int k b)) : Yld P e ⟨d, .binOp .or t x y t2, ty, pos, aft, g⟩ (.int k (k.wrap (BitVec.ofInt k.bits a ||| BitVec.ofInt k.bits b).toNat)) w := ⟨fun ρ hρ w' _ =>
  run_binOp_plain (hρ x _ hx) (hρ y _ hy) eqGuard_int (by simp [binOp, Op.intBits])⟩
theorem yld_not {b : Bool} (hx : ev e x = some (.bool b)) : Yld P e ⟨d, .unOp .not t x, ty, pos, aft, g⟩ (.bool (!b)) w := ⟨fun ρ hρ w' _ => by
  simp only [execOp, hρ x _ hx, Op.unary]; rfl⟩
theorem yld_eql_str {a b : ByteArray} (hx : ev e x = some (.string a)) (hy : ev e y = some (.string b)) : Yld P e ⟨d, .binOp .eql t x y t2, ty, pos, aft, g⟩ (.bool (a.toList == b.toList)) w := ⟨fun ρ hρ w' _ =>
  run_binOp_plain (hρ x _ hx) (hρ y _ hy) eqGuard_str (by simp [binOp, Op.stringOp])⟩
theorem yld_neq_str {a b : ByteArray} (hx : ev e x = some (.string a)) (hy : ev e y = some (.string b)) : Yld P e ⟨d, .binOp .neq t x y t2, ty, pos, aft, g⟩ (.bool (!(a.toList == b.toList))) w := ⟨fun ρ hρ w' _ =>
  run_binOp_plain (hρ x _ hx) (hρ y _ hy) eqGuard_str (by simp [binOp, Op.stringOp])⟩

theorem yld_eql_bool {a b : Bool} [h : Und P t .bool] (hx : ev e x = some (.bool a)) (hy : ev e y = some (.bool b)) : Yld P e ⟨d, .binOp .eql t x y t2, ty, pos, aft, g⟩ (.bool (a == b)) w := ⟨fun ρ hρ w' _ =>
  run_binOp_plain (hρ x _ hx) (hρ y _ hy) eqGuard_bool (by
    have hk : ∀ k : Nat, (Op.equalIn (k + 1) t (.bool a) (.bool b)).run P w' = .ok (a == b) w' := fun k => by simp [Op.equalIn, run_underlying h.at_]
    have he : (Op.equal t (.bool a) (.bool b)).run P w' = .ok (a == b) w' := hk 9999
    simp only [binOp, Sem.run_bind, he, Result.andThen_ok]; rfl)⟩

theorem yld_neq_bool {a b : Bool} [h : Und P t .bool] (hx : ev e x = some (.bool a)) (hy : ev e y = some (.bool b)) : Yld P e ⟨d, .binOp .neq t x y t2, ty, pos, aft, g⟩ (.bool (!(a == b))) w := ⟨fun ρ hρ w' _ =>
  run_binOp_plain (hρ x _ hx) (hρ y _ hy) eqGuard_bool (by
    have hk : ∀ k : Nat, (Op.equalIn (k + 1) t (.bool a) (.bool b)).run P w' = .ok (a == b) w' := fun k => by simp [Op.equalIn, run_underlying h.at_]
    have he : (Op.equal t (.bool a) (.bool b)).run P w' = .ok (a == b) w' := hk 9999
    simp only [binOp, Sem.run_bind, he, Result.andThen_ok]; rfl)⟩

theorem yld_eql_pn {a : Addr} {el : TypeId} [h : Und P t (.pointer el)] (hx : ev e x = some (.pointer (some a))) (hy : ev e y = some (.pointer none)) : Yld P e ⟨d, .binOp .eql t x y t2, ty, pos, aft, g⟩ (.bool (false)) w := ⟨fun ρ hρ w' _ =>
  run_binOp_plain (hρ x _ hx) (hρ y _ hy) eqGuard_ptr (by
    have hk : ∀ k : Nat, (Op.equalIn (k + 1) t (.pointer (some a)) (.pointer none)).run P w' = .ok (false) w' := fun k => by simp [Op.equalIn, run_underlying h.at_]
    have he : (Op.equal t (.pointer (some a)) (.pointer none)).run P w' = .ok (false) w' := hk 9999
    simp only [binOp, Sem.run_bind, he, Result.andThen_ok]; rfl)⟩

theorem yld_neq_pn {a : Addr} {el : TypeId} [h : Und P t (.pointer el)] (hx : ev e x = some (.pointer (some a))) (hy : ev e y = some (.pointer none)) : Yld P e ⟨d, .binOp .neq t x y t2, ty, pos, aft, g⟩ (.bool (true)) w := ⟨fun ρ hρ w' _ =>
  run_binOp_plain (hρ x _ hx) (hρ y _ hy) eqGuard_ptr (by
    have hk : ∀ k : Nat, (Op.equalIn (k + 1) t (.pointer (some a)) (.pointer none)).run P w' = .ok (false) w' := fun k => by simp [Op.equalIn, run_underlying h.at_]
    have he : (Op.equal t (.pointer (some a)) (.pointer none)).run P w' = .ok (false) w' := hk 9999
    simp only [binOp, Sem.run_bind, he, Result.andThen_ok]; rfl)⟩

theorem yld_eql_nn {el : TypeId} [h : Und P t (.pointer el)] (hx : ev e x = some (.pointer none)) (hy : ev e y = some (.pointer none)) : Yld P e ⟨d, .binOp .eql t x y t2, ty, pos, aft, g⟩ (.bool (true)) w := ⟨fun ρ hρ w' _ =>
  run_binOp_plain (hρ x _ hx) (hρ y _ hy) eqGuard_ptr (by
    have hk : ∀ k : Nat, (Op.equalIn (k + 1) t (.pointer none) (.pointer none)).run P w' = .ok (true) w' := fun k => by simp [Op.equalIn, run_underlying h.at_]
    have he : (Op.equal t (.pointer none) (.pointer none)).run P w' = .ok (true) w' := hk 9999
    simp only [binOp, Sem.run_bind, he, Result.andThen_ok]; rfl)⟩

theorem yld_neq_nn {el : TypeId} [h : Und P t (.pointer el)] (hx : ev e x = some (.pointer none)) (hy : ev e y = some (.pointer none)) : Yld P e ⟨d, .binOp .neq t x y t2, ty, pos, aft, g⟩ (.bool (false)) w := ⟨fun ρ hρ w' _ =>
  run_binOp_plain (hρ x _ hx) (hρ y _ hy) eqGuard_ptr (by
    have hk : ∀ k : Nat, (Op.equalIn (k + 1) t (.pointer none) (.pointer none)).run P w' = .ok (true) w' := fun k => by simp [Op.equalIn, run_underlying h.at_]
    have he : (Op.equal t (.pointer none) (.pointer none)).run P w' = .ok (true) w' := hk 9999
    simp only [binOp, Sem.run_bind, he, Result.andThen_ok]; rfl)⟩



theorem yld_eql_mapnil {r : Option Nat} {k el : TypeId} [h : Und P t (.map k el)] (hx : ev e x = some (.map r)) (hy : ev e y = some (.map none)) : Yld P e ⟨d, .binOp .eql t x y t2, ty, pos, aft, g⟩ (.bool (r.isNone)) w := ⟨fun ρ hρ w' _ =>
  run_binOp_plain (hρ x _ hx) (hρ y _ hy) eqGuard_map (by
    have hk : ∀ k : Nat, (Op.equalIn (k + 1) t (.map r) (.map none)).run P w' = .ok (r.isNone) w' := fun k => by cases r <;> simp [Op.equalIn, run_underlying h.at_]
    have he : (Op.equal t (.map r) (.map none)).run P w' = .ok (r.isNone) w' := hk 9999
    simp only [binOp, Sem.run_bind, he, Result.andThen_ok]; rfl)⟩

theorem yld_neq_mapnil {r : Option Nat} {k el : TypeId} [h : Und P t (.map k el)] (hx : ev e x = some (.map r)) (hy : ev e y = some (.map none)) : Yld P e ⟨d, .binOp .neq t x y t2, ty, pos, aft, g⟩ (.bool (!(r.isNone))) w := ⟨fun ρ hρ w' _ =>
  run_binOp_plain (hρ x _ hx) (hρ y _ hy) eqGuard_map (by
    have hk : ∀ k : Nat, (Op.equalIn (k + 1) t (.map r) (.map none)).run P w' = .ok (r.isNone) w' := fun k => by cases r <;> simp [Op.equalIn, run_underlying h.at_]
    have he : (Op.equal t (.map r) (.map none)).run P w' = .ok (r.isNone) w' := hk 9999
    simp only [binOp, Sem.run_bind, he, Result.andThen_ok]; rfl)⟩

theorem yld_eql_slnil {a : Option Addr} {n c n' c' : Nat} {el : TypeId} [h : Und P t (.slice el)] (hx : ev e x = some (.slice a n c)) (hy : ev e y = some (.slice none n' c')) : Yld P e ⟨d, .binOp .eql t x y t2, ty, pos, aft, g⟩ (.bool (a.isNone)) w := ⟨fun ρ hρ w' _ =>
  run_binOp_plain (hρ x _ hx) (hρ y _ hy) eqGuard_slice (by
    have hk : ∀ k : Nat, (Op.equalIn (k + 1) t (.slice a n c) (.slice none n' c')).run P w' = .ok (a.isNone) w' := fun k => by cases a <;> simp [Op.equalIn, run_underlying h.at_]
    have he : (Op.equal t (.slice a n c) (.slice none n' c')).run P w' = .ok (a.isNone) w' := hk 9999
    simp only [binOp, Sem.run_bind, he, Result.andThen_ok]; rfl)⟩

theorem yld_neq_slnil {a : Option Addr} {n c n' c' : Nat} {el : TypeId} [h : Und P t (.slice el)] (hx : ev e x = some (.slice a n c)) (hy : ev e y = some (.slice none n' c')) : Yld P e ⟨d, .binOp .neq t x y t2, ty, pos, aft, g⟩ (.bool (!(a.isNone))) w := ⟨fun ρ hρ w' _ =>
  run_binOp_plain (hρ x _ hx) (hρ y _ hy) eqGuard_slice (by
    have hk : ∀ k : Nat, (Op.equalIn (k + 1) t (.slice a n c) (.slice none n' c')).run P w' = .ok (a.isNone) w' := fun k => by cases a <;> simp [Op.equalIn, run_underlying h.at_]
    have he : (Op.equal t (.slice a n c) (.slice none n' c')).run P w' = .ok (a.isNone) w' := hk 9999
    simp only [binOp, Sem.run_bind, he, Result.andThen_ok]; rfl)⟩

theorem yld_eql_ifn {u : TypeId} {a : Value} {ms : Array (String × TypeId)} [h : Und P t (.interface ms)] (hx : ev e x = some (.iface u a)) (hy : ev e y = some .nilIface) : Yld P e ⟨d, .binOp .eql t x y t2, ty, pos, aft, g⟩ (.bool (false)) w := ⟨fun ρ hρ w' _ =>
  run_binOp_plain (hρ x _ hx) (hρ y _ hy) eqGuard_ifn (by
    have hk : ∀ k : Nat, (Op.equalIn (k + 1) t (.iface u a) .nilIface).run P w' = .ok (false) w' := fun k => by simp [Op.equalIn, run_underlying h.at_]
    have he : (Op.equal t (.iface u a) .nilIface).run P w' = .ok (false) w' := hk 9999
    simp only [binOp, Sem.run_bind, he, Result.andThen_ok]; rfl)⟩

theorem yld_neq_ifn {u : TypeId} {a : Value} {ms : Array (String × TypeId)} [h : Und P t (.interface ms)] (hx : ev e x = some (.iface u a)) (hy : ev e y = some .nilIface) : Yld P e ⟨d, .binOp .neq t x y t2, ty, pos, aft, g⟩ (.bool (true)) w := ⟨fun ρ hρ w' _ =>
  run_binOp_plain (hρ x _ hx) (hρ y _ hy) eqGuard_ifn (by
    have hk : ∀ k : Nat, (Op.equalIn (k + 1) t (.iface u a) .nilIface).run P w' = .ok (false) w' := fun k => by simp [Op.equalIn, run_underlying h.at_]
    have he : (Op.equal t (.iface u a) .nilIface).run P w' = .ok (false) w' := hk 9999
    simp only [binOp, Sem.run_bind, he, Result.andThen_ok]; rfl)⟩

theorem yld_eql_nif {u : TypeId} {a : Value} {ms : Array (String × TypeId)} [h : Und P t (.interface ms)] (hx : ev e x = some .nilIface) (hy : ev e y = some (.iface u a)) : Yld P e ⟨d, .binOp .eql t x y t2, ty, pos, aft, g⟩ (.bool (false)) w := ⟨fun ρ hρ w' _ =>
  run_binOp_plain (hρ x _ hx) (hρ y _ hy) eqGuard_nif (by
    have hk : ∀ k : Nat, (Op.equalIn (k + 1) t .nilIface (.iface u a)).run P w' = .ok (false) w' := fun k => by simp [Op.equalIn, run_underlying h.at_]
    have he : (Op.equal t .nilIface (.iface u a)).run P w' = .ok (false) w' := hk 9999
    simp only [binOp, Sem.run_bind, he, Result.andThen_ok]; rfl)⟩

theorem yld_neq_nif {u : TypeId} {a : Value} {ms : Array (String × TypeId)} [h : Und P t (.interface ms)] (hx : ev e x = some .nilIface) (hy : ev e y = some (.iface u a)) : Yld P e ⟨d, .binOp .neq t x y t2, ty, pos, aft, g⟩ (.bool (true)) w := ⟨fun ρ hρ w' _ =>
  run_binOp_plain (hρ x _ hx) (hρ y _ hy) eqGuard_nif (by
    have hk : ∀ k : Nat, (Op.equalIn (k + 1) t .nilIface (.iface u a)).run P w' = .ok (false) w' := fun k => by simp [Op.equalIn, run_underlying h.at_]
    have he : (Op.equal t .nilIface (.iface u a)).run P w' = .ok (false) w' := hk 9999
    simp only [binOp, Sem.run_bind, he, Result.andThen_ok]; rfl)⟩

theorem yld_eql_ift {u u2 : TypeId} {a b : Value} {ms : Array (String × TypeId)} [h : Und P t (.interface ms)] (hne : u ≠ u2) (hx : ev e x = some (.iface u a)) (hy : ev e y = some (.iface u2 b)) : Yld P e ⟨d, .binOp .eql t x y t2, ty, pos, aft, g⟩ (.bool (false)) w := ⟨fun ρ hρ w' _ =>
  run_binOp_plain (hρ x _ hx) (hρ y _ hy) eqGuard_if (by
    have hk : ∀ k : Nat, (Op.equalIn (k + 1) t (.iface u a) (.iface u2 b)).run P w' = .ok (false) w' := fun k => by simp [Op.equalIn, run_underlying h.at_, hne]
    have he : (Op.equal t (.iface u a) (.iface u2 b)).run P w' = .ok (false) w' := hk 9999
    simp only [binOp, Sem.run_bind, he, Result.andThen_ok]; rfl)⟩

theorem yld_neq_ift {u u2 : TypeId} {a b : Value} {ms : Array (String × TypeId)} [h : Und P t (.interface ms)] (hne : u ≠ u2) (hx : ev e x = some (.iface u a)) (hy : ev e y = some (.iface u2 b)) : Yld P e ⟨d, .binOp .neq t x y t2, ty, pos, aft, g⟩ (.bool (true)) w := ⟨fun ρ hρ w' _ =>
  run_binOp_plain (hρ x _ hx) (hρ y _ hy) eqGuard_if (by
    have hk : ∀ k : Nat, (Op.equalIn (k + 1) t (.iface u a) (.iface u2 b)).run P w' = .ok (false) w' := fun k => by simp [Op.equalIn, run_underlying h.at_, hne]
    have he : (Op.equal t (.iface u a) (.iface u2 b)).run P w' = .ok (false) w' := hk 9999
    simp only [binOp, Sem.run_bind, he, Result.andThen_ok]; rfl)⟩

theorem yld_eql_ifnn {v : Value} {ms : Array (String × TypeId)} [h : Und P t (.interface ms)] (hx : ev e x = some .nilIface) (hv : v = .nilIface) : Yld P e ⟨d, .binOp .eql t x (.const v) t2, ty, pos, aft, g⟩ (.bool true) w := ⟨fun ρ hρ w' _ => by
  subst hv
  exact run_binOp_plain (hρ x _ hx) (hρ (.const .nilIface) _ rfl) eqGuard_nn (by
    have hk : ∀ k : Nat, (Op.equalIn (k + 1) t .nilIface .nilIface).run P w' = .ok true w' := fun k => by simp [Op.equalIn, run_underlying h.at_]
    have he : (Op.equal t .nilIface .nilIface).run P w' = .ok true w' := hk 9999
    simp only [binOp, Sem.run_bind, he, Result.andThen_ok]; rfl)⟩
theorem yld_neq_ifnn {v : Value} {ms : Array (String × TypeId)} [h : Und P t (.interface ms)] (hx : ev e x = some .nilIface) (hv : v = .nilIface) : Yld P e ⟨d, .binOp .neq t x (.const v) t2, ty, pos, aft, g⟩ (.bool false) w := ⟨fun ρ hρ w' _ => by
  subst hv
  exact run_binOp_plain (hρ x _ hx) (hρ (.const .nilIface) _ rfl) eqGuard_nn (by
    have hk : ∀ k : Nat, (Op.equalIn (k + 1) t .nilIface .nilIface).run P w' = .ok true w' := fun k => by simp [Op.equalIn, run_underlying h.at_]
    have he : (Op.equal t .nilIface .nilIface).run P w' = .ok true w' := hk 9999
    simp only [binOp, Sem.run_bind, he, Result.andThen_ok]; rfl)⟩

/-! pointers to blocks of cells -/
class PtrT (P : Program) (t : TypeId) : Prop where
  at_ : ∃ el i, P.underlying t = some (.pointer el) ∧ P.info? el = some i ∧ i.size ≠ 0
class CmpT (P : Program) (t : TypeId) : Prop where
  at_ : ∃ i, P.info? t = some i ∧ i.comparable = true

/-- a block of cells of which no string shares any -/
class Pl (w : World) (b : Nat) : Prop where
  at_ : ∃ cs t, w.heap[b]? = some (.cells cs t (0, 0))
instance Pl.of_has {w : World} {b : Nat} {cs : Array Value} {t : TypeId} [h : Has w b (.cells cs t (0, 0))] : Pl w b := ⟨cs, t, h.at_⟩
theorem Pl.lt {w : World} {b : Nat} (h : Pl w b) : b < w.heap.size := by
  obtain ⟨cs, t, h⟩ := h.at_
  exact (Array.getElem?_eq_some_iff.1 h).1
theorem Pl.ext' {w w' : World} {b : Nat} (x : Ext w w') (h : Pl w b) : Pl w' b := by
  obtain ⟨cs, t, h2⟩ := h.at_
  exact ⟨cs, t, by rw [x.below.block b h.lt]; exact h2⟩
instance Pl.ext {w w' : World} {b : Nat} [x : Ext w w'] [h : Pl w b] : Pl w' b := h.ext' x

theorem run_equalIn_ptr {n : Nat} {a b : Addr} [h : PtrT P t] (ha : Pl w a.block) (hb : Pl w b.block) : (Op.equalIn (n + 1) t (.pointer (some a)) (.pointer (some b))).run P w = .ok (decide (a = b)) w := by
  obtain ⟨el, i, h1, h2, h3⟩ := h.at_
  obtain ⟨ca, ta, ha⟩ := ha.at_
  obtain ⟨cb, tb, hb⟩ := hb.at_
  by_cases hab : a = b
  · subst hab
    simp [Op.equalIn, run_underlying h1, sizeOf, typeInfo, h2, run_sameAddr_same]
  · simp [Op.equalIn, run_underlying h1, sizeOf, typeInfo, h2, h3, run_sameAddr_other w hab ha hb, hab]

theorem run_equal_ptr {a b : Addr} [h : PtrT P t] (ha : Pl w a.block) (hb : Pl w b.block) : (Op.equal t (.pointer (some a)) (.pointer (some b))).run P w = .ok (decide (a = b)) w :=
  run_equalIn_ptr (n := 9999) ha hb


theorem yld_eql_ptr [h : PtrT P t] {a b : Addr} (hx : ev e x = some (.pointer (some a))) (hy : ev e y = some (.pointer (some b))) [ha : Pl w a.block] [hb : Pl w b.block] : Yld P e ⟨d, .binOp .eql t x y t2, ty, pos, aft, g⟩ (.bool (decide (a = b))) w := ⟨fun ρ hρ w' hw =>
  run_binOp_plain (hρ x _ hx) (hρ y _ hy) eqGuard_ptr (by
    have he := run_equal_ptr (P := P) (t := t) (ha.ext' hw) (hb.ext' hw)
    simp only [binOp, Sem.run_bind, he, Result.andThen_ok]; rfl)⟩





/-! ### Type switches -/
class Zv (P : Program) (t : TypeId) (z : outParam Value) : Prop where
  at_ : ∃ i, P.info? t = some i ∧ i.zero = some z
def noIf (D : TypeDesc) : Bool := match D with | .interface _ => false | _ => true

theorem yld_assert_yes {t u : TypeId} {v : Value} {D : TypeDesc} [h : Und P u D] (hD : noIf D = true) (hx : ev e x = some (.iface u v)) :
    Yld P e ⟨d, .typeAssert x t u true, ty, pos, aft, g⟩ (.tuple #[v, .bool true]) w := ⟨fun ρ hρ w' _ => by
  have hu := h.at_
  simp only [execOp, hρ x _ hx, Instr.typeAssert]
  cases D <;> first
    | (simp [noIf] at hD; done)
    | simp [run_underlying hu]⟩
theorem yld_assert_no {t u u2 : TypeId} {v z : Value} {D : TypeDesc} [h : Und P u D] [hz : Zv P u z] (hD : noIf D = true) (hx : ev e x = some (.iface u2 v)) (hne : Nat.beq u2 u = false) :
    Yld P e ⟨d, .typeAssert x t u true, ty, pos, aft, g⟩ (.tuple #[z, .bool false]) w := ⟨fun ρ hρ w' _ => by
  have hu := h.at_
  obtain ⟨i, h1, h2⟩ := hz.at_
  have hne' : u2 ≠ u := fun hh => by subst hh; simp [Nat.beq_refl] at hne
  simp only [execOp, hρ x _ hx, Instr.typeAssert]
  cases D <;> first
    | (simp [noIf] at hD; done)
    | simp [run_underlying hu, hne', zeroValue, typeInfo, h1, h2]⟩
theorem yld_assert_nil {t u : TypeId} {z : Value} {D : TypeDesc} [h : Und P u D] [hz : Zv P u z] (hD : noIf D = true) (hx : ev e x = some .nilIface) :
    Yld P e ⟨d, .typeAssert x t u true, ty, pos, aft, g⟩ (.tuple #[z, .bool false]) w := ⟨fun ρ hρ w' _ => by
  have hu := h.at_
  obtain ⟨i, h1, h2⟩ := hz.at_
  simp only [execOp, hρ x _ hx, Instr.typeAssert]
  cases D <;> first
    | (simp [noIf] at hD; done)
    | simp [run_underlying hu, zeroValue, typeInfo, h1, h2]⟩
/-- without ', ok' -/
theorem yld_assert1 {t u : TypeId} {v : Value} {D : TypeDesc} [h : Und P u D] (hD : noIf D = true) (hx : ev e x = some (.iface u v)) :
    Yld P e ⟨d, .typeAssert x t u false, ty, pos, aft, g⟩ v w := ⟨fun ρ hρ w' _ => by
  have hu := h.at_
  simp only [execOp, hρ x _ hx, Instr.typeAssert]
  cases D <;> first
    | (simp [noIf] at hD; done)
    | simp [run_underlying hu]⟩

/-! ### Slices -/
theorem yld_indexAddr {el : TypeId} {b o n c : Nat} {k : IntKind} {i : Int} {sz : Nat} [h : Und P t (.slice el)] [hi : Inf P el sz] (hx : ev e x = some (.slice (some ⟨b, o, none⟩) n c)) (hy : ev e y = some (.int k i))
    (h0 : 0 ≤ i) (h1 : i < n) : Yld P e ⟨d, .indexAddr t x y, ty, pos, aft, g⟩ (.pointer (some ⟨b, o + i.toNat * sz, none⟩)) w := ⟨fun ρ hρ w' _ => by
  obtain ⟨j, h2, h3⟩ := hi.at_
  have hadd : (⟨b, o, none⟩ : Addr).add (i.toNat * sz) = ⟨b, o + i.toNat * sz, none⟩ := Addr.add_mid ..
  simp [execOp, hρ x _ hx, hρ y _ hy, Instr.indexAt, asIntOf, run_underlying h.at_, h0, h1, sizeOf, typeInfo, h2, h3, hadd]⟩

theorem yld_len_slice {a : Option Addr} {n c : Nat} {el : TypeId} {tys : Array TypeId} [h : Und P t (.slice el)] (hx : ev e x = some (.slice a n c)) (ht : tys[0]? = some t) :
    Yld P e ⟨d, .call ⟨.builtin .len, #[x], tys⟩, ty, pos, aft, g⟩ (.int .i64 n) w := ⟨fun ρ hρ w' _ => by
  simp [execOp, resolve, invoke, builtin, Builtin.len_, hρ x _ hx, ht, run_underlying h.at_, goInt]⟩
theorem yld_len_str {s : ByteArray} {tys : Array TypeId} [h : Und P t .string] (hx : ev e x = some (.string s)) (ht : tys[0]? = some t) :
    Yld P e ⟨d, .call ⟨.builtin .len, #[x], tys⟩, ty, pos, aft, g⟩ (.int .i64 s.size) w := ⟨fun ρ hρ w' _ => by
  simp [execOp, resolve, invoke, builtin, Builtin.len_, hρ x _ hx, ht, run_underlying h.at_, goInt]⟩

/-! ### Stores -/
class Upd (w : semiOutParam World) (b : semiOutParam Nat) (o : semiOutParam Obj) (w' : World) : Prop where
  has : Has w' b o
  oth : ∀ c, c ≠ b → w'.heap[c]? = w.heap[c]?
  size : w'.heap.size = w.heap.size
  os : w'.os = w.os
  tape : w'.tape = w.tape
  output : w'.output = w.output

instance Upd.has' {w : World} {b : Nat} {o : Obj} {w' : World} [h : Upd w b o w'] : Has w' b o := h.has

theorem Upd.keep {w w' : World} {b c : Nat} {o o' : Obj} (h : Upd w b o w') (hc : Has w c o') (hne : c ≠ b) : Has w' c o' := ⟨(h.oth c hne).trans hc.at_⟩
theorem Upd.ext {w0 w w' : World} {b : Nat} {o : Obj} (h : Upd w b o w') (x : Ext w0 w) (hb : w0.heap.size ≤ b) : Ext w0 w' :=
  ⟨⟨h.os.trans x.below.os, h.tape.trans x.below.tape, h.output.trans x.below.output, by rw [h.size]; exact x.below.size, fun k hk => by
    rw [h.oth k (by omega)]; exact x.below.block k hk⟩⟩

/-- a store into a new block -/
theorem Upd.ofNew {w w1 w' : World} {b : Nat} {o o' : Obj} (h : Upd w1 b o w') (n : New w b o' w1) : New w b o w' :=
  ⟨n.num, h.has, h.ext n.ext (by rw [n.num]; exact Nat.le_refl _), h.size.trans n.size⟩

theorem Upd.setRow {w : World} {b : Nat} {cs cs' : Array Value} {t : TypeId} (h : Has w b (.cells cs t (0, 0))) : Upd w b (.cells cs' t (0, 0)) (w.setRow b cs') := by
  refine ⟨⟨setRow_heap w b cs cs' t (0, 0) h.at_⟩, fun c hc => ?_, ?_, rfl, rfl, rfl⟩
  · unfold World.setRow
    simp [Array.getElem?_modify, Ne.symm hc]
  · unfold World.setRow
    simp

/-- a struct into a whole block -/
theorem stp_store_whole {b : Nat} {cs : Array Value} {l : List Value} {t' : TypeId} [hi : Inf P t l.length] [hb : Has w b (.cells cs t' (0, 0))] (hx : ev e x = some (.pointer (some ⟨b, 0, none⟩))) (hy : ev e y = some (.agg l.toArray))
    (hsz : Nat.beq cs.size l.length = true) (h1 : (l.all (·.oneCell')) = true) : Stp P e ⟨d, .store t x y, ty, pos, aft, g⟩ w (fun _ w' => Upd w b (.cells l.toArray t' (0, 0)) w') := ⟨fun ρ hρ => by
  obtain ⟨i, h2, h3⟩ := hi.at_
  have hs := run_storeVar_row (P := P) w b t' t cs l.toArray hb.at_ (by simp [h2, h3]) (by simpa using Nat.eq_of_beq_eq_true hsz) (by simpa using h1)
  simp only [execOp, hρ x _ hx, hρ y _ hy, Instr.storeAt, Instr.sureAddr, Sem.run_bind, Sem.run_pure, Result.andThen_ok, hs]
  exact Upd.setRow hb⟩

/-- one cell, of whatever block -/
theorem stp_store_at {b i : Nat} {cs : Array Value} {v : Value} {t' : TypeId} [h : Scl P t] [hb : Has w b (.cells cs t' (0, 0))] (hx : ev e x = some (.pointer (some ⟨b, i, none⟩))) (hy : ev e y = some v)
    (hi : i < cs.size) (h1 : v.oneCell' = true) : Stp P e ⟨d, .store t x y, ty, pos, aft, g⟩ w (fun _ w' => Upd w b (.cells (cs.setIfInBounds i v) t' (0, 0)) w') := ⟨fun ρ hρ => by
  obtain ⟨D, j, h2, h3, h4, h5⟩ := h.at_
  have hc : v.cells = #[v] := by cases v <;> simp_all [Value.cells, Value.oneCell']
  have hcell : w.cell? ⟨b, i, none⟩ = some cs[i] := by simp [World.cell?, hb.at_, hi]
  have hfro : w.frozen? ⟨b, i, none⟩ = false := by simp [World.frozen?, hb.at_]
  have hst : (store (⟨b, i, none⟩ : Addr) v).run P w = .ok () (w.setRow b (cs.setIfInBounds i v)) := by
    rw [run_store P w _ v _ h1, hcell]
    simp [hfro, setCell_eq_setRow w b i cs t' (0, 0) v hb.at_]
  have hs : (storeVar t ⟨b, i, none⟩ v).run P w = .ok () (w.setRow b (cs.setIfInBounds i v)) := by
    have ha0 : (⟨b, i, none⟩ : Addr).add 0 = ⟨b, i, none⟩ := rfl
    simp [storeVar, sizeOf, typeInfo, h4, h5, hc, storeCells, ha0, hst]
  simp only [execOp, hρ x _ hx, hρ y _ hy, Instr.storeAt, Instr.sureAddr, Sem.run_bind, Sem.run_pure, Result.andThen_ok, hs]
  exact Upd.setRow hb⟩
/-- one cell of a block written out -/
theorem stp_store_cell {b i : Nat} {l l' : List Value} {v : Value} {t' : TypeId} [h : Scl P t] [hb : Has w b (.cells l.toArray t' (0, 0))] (hx : ev e x = some (.pointer (some ⟨b, i, none⟩))) (hy : ev e y = some v)
    (hs : setO l i v = some l') (h1 : v.oneCell' = true) : Stp P e ⟨d, .store t x y, ty, pos, aft, g⟩ w (fun _ w' => Upd w b (.cells l'.toArray t' (0, 0)) w') := by
  obtain ⟨h2, h3⟩ := setO_spec l i v l' hs
  have := stp_store_at (P := P) (d := d) (ty := ty) (pos := pos) (aft := aft) (g := g) (t := t) (h := h) (hb := hb) hx hy (by simpa using h2) h1
  have he : l.toArray.setIfInBounds i v = l'.toArray := by rw [h3]; simp
  rwa [he] at this

/-! ### The call's frame and its results -/
def argE : List Value → Nat → Env
  | [], _ => []
  | v :: r, i => (i, v) :: argE r (i + 1)

theorem argE_lk : ∀ (l : List Value) (k i : Nat) (v : Value), lk (argE l k) i = some v → k ≤ i ∧ l[i - k]? = some v
  | [], _, _, _, h => by simp [argE, lk] at h
  | u :: r, k, i, v, h => by
    simp only [argE, lk_cons] at h
    split at h
    · rename_i hk; subst hk; simp_all
    · rename_i hk
      obtain ⟨h1, h2⟩ := argE_lk r (k + 1) i v h
      refine ⟨by omega, ?_⟩
      rw [show i - k = (i - (k + 1)) + 1 from by omega]
      simpa using h2

/-- the same, in full -/
def argO : List Value → Option Env
  | [] => some []
  | [a] => some [(0, a)]
  | [a, b] => some [(0, a), (1, b)]
  | [a, b, c] => some [(0, a), (1, b), (2, c)]
  | [a, b, c, d] => some [(0, a), (1, b), (2, c), (3, d)]
  | [a, b, c, d, e] => some [(0, a), (1, b), (2, c), (3, d), (4, e)]
  | [a, b, c, d, e, f] => some [(0, a), (1, b), (2, c), (3, d), (4, e), (5, f)]
  | [a, b, c, d, e, f, g] => some [(0, a), (1, b), (2, c), (3, d), (4, e), (5, f), (6, g)]
  | [a, b, c, d, e, f, g, h] => some [(0, a), (1, b), (2, c), (3, d), (4, e), (5, f), (6, g), (7, h)]
  | [a, b, c, d, e, f, g, h, i] => some [(0, a), (1, b), (2, c), (3, d), (4, e), (5, f), (6, g), (7, h), (8, i)]
  | _ => none
theorem argO_eq (l : List Value) (e : Env) (h : argO l = some e) : e = argE l 0 := by
  unfold argO at h
  split at h <;> first
    | (cases h; done)
    | (cases h; rfl)

/-- What the result variables hold. -/
inductive RV (P : Program) (e : Env) (w : World) : List ResultVar → List Value → Prop
  | nil : RV P e w [] []
  | tmp {t v r vs} : lk e t = some v → RV P e w r vs → RV P e w (.tmp t :: r) (v :: vs)
  | cell {t a ty v r vs} : lk e t = some (.pointer (some a)) → (loadVar ty a).run P w = .ok v w → RV P e w r vs → RV P e w (.cell t ty :: r) (v :: vs)

def tup : List Value → Value
  | [v] => v
  | vs => .tuple vs.toArray

def fin (P : Program) (fn : Func) (R : Ending → World → Prop) : Post
  | .normal, D, e, w | .ret, D, e, w => D = [] ∧ ∃ vs, RV P e w fn.results.toList vs ∧ R (.returned (tup vs)) w
  | _, _, _, _ => False

def resF (tmps : Array Value) : ResultVar → Sem Value
  | .tmp t => pure (tmps.getD t undef)
  | .cell a t => do loadVar t (← asAddr (tmps.getD a undef))

theorem results_eq (fn : Func) (tmps : Array Value) : results fn tmps = (do
    let vs ← fn.results.mapM (resF tmps)
    pure (if h : vs.size = 1 then vs[0] else .tuple vs)) := rfl

theorem getD_of {l : Array Value} {i : Nat} {v : Value} (h : l[i]? = some v) : l.getD i undef = v := by
  rw [Array.getD_eq_getD_getElem?, h]; rfl

theorem run_results {P : Program} {fn : Func} {n : Nat} {D : List Deferred} {e : Env} {a : Act} {w : World} (ha : Fr n D e a) {vs : List Value} (h : RV P e w fn.results.toList vs) :
    (results fn a.tmps).run P w = .ok (tup vs) w := by
  have hm : ∀ (rs : List ResultVar) (vs : List Value), RV P e w rs vs → (rs.mapM (resF a.tmps)).run P w = .ok vs w := by
    intro rs vs h
    induction h with
    | nil => rfl
    | tmp h1 _ ih =>
      have h4 := getD_of (ha.get _ _ h1)
      simp only [List.mapM_cons, Sem.run_bind, resF, h4, Sem.run_pure, Result.andThen_ok, ih]
    | cell h1 h2 _ ih =>
      have h4 := getD_of (ha.get _ _ h1)
      simp only [List.mapM_cons, Sem.run_bind, resF, h4, asAddr, Sem.run_pure, Result.andThen_ok, h2, ih]
  have h1 := hm _ _ h
  rw [results_eq, Array.mapM_eq_mapM_toList]
  have h2 : ((List.toArray <$> fn.results.toList.mapM (resF a.tmps) : Sem (Array Value)).run P w) = .ok vs.toArray w := by
    show ((fn.results.toList.mapM (resF a.tmps)) >>= fun l => pure l.toArray : Sem (Array Value)).run P w = _
    rw [Sem.run_bind, h1]
    rfl
  rw [Sem.run_bind, h2]
  simp only [Result.andThen_ok, Sem.run_pure, List.size_toArray]
  match vs with
  | [] => rfl
  | [v] => rfl
  | u :: v :: r => simp [tup]

theorem W.enter {P : Program} {k n : Nat} {fn : Func} {c : Code} {args : List Value} {w : World} {R : Ending → World → Prop} (hf : P.funcs[k]? = some fn) (hb : fn.body = some c)
    (hn : fn.ntmps = n) (hl : Nat.ble args.length n = true) {e : Env} (he : argO args = some e) (h : W P n c (fin P fn R) [] e w) : Calls P k args.toArray w R :=
  calls_of_wp hf hb (wp_mono ((argO_eq args e he ▸ h : W P n c (fin P fn R) [] (argE args 0) w).out { tmps := args.toArray ++ Array.replicate (fn.ntmps - args.toArray.size) undef, defers := [] } ⟨by have := Nat.le_of_ble_eq_true hl; simp; omega, rfl, fun i v hi => by
      obtain ⟨_, h2⟩ := argE_lk args 0 i v hi
      simp only [Nat.sub_zero] at h2
      have : i < args.length := (List.getElem?_eq_some_iff.1 h2).1
      rw [Array.getElem?_append_left (by simpa using this)]
      simpa using h2⟩) fun x a' w' hx => by
    cases x with
    | normal =>
      obtain ⟨D', e', ha, hD, vs, hr, hR⟩ := hx
      exact ⟨by rw [ha.defers, hD], _, run_results ha hr, hR⟩
    | ret =>
      obtain ⟨D', e', ha, hD, vs, hr, hR⟩ := hx
      exact ⟨by rw [ha.defers, hD], _, run_results ha hr, hR⟩
    | panic ch => exact hx.elim
    | outgrown => exact hx.elim
    | exit id => obtain ⟨_, _, _, h⟩ := hx; exact h.elim
    | goto l => obtain ⟨_, _, _, h⟩ := hx; exact h.elim)

theorem fin1 {P : Program} {fn : Func} {R : Value → World → Prop} {x : Exit} {e : Env} {w : World} {t : Nat} {v : Value} (hx : x = .ret ∨ x = .normal) (hr : fn.results = #[.tmp t]) (hv : lk e t = some v) (h : R v w) :
    fin P fn (Ret R) x [] e w := by
  have : RV P e w fn.results.toList [v] := by rw [hr]; exact .tmp hv .nil
  rcases hx with rfl | rfl <;> exact ⟨rfl, [v], this, v, rfl, h⟩
theorem fin0 {P : Program} {fn : Func} {R : Value → World → Prop} {x : Exit} {e : Env} {w : World} (hx : x = .ret ∨ x = .normal) (hr : fn.results = #[]) (h : R (.tuple #[]) w) :
    fin P fn (Ret R) x [] e w := by
  have : RV P e w fn.results.toList [] := by rw [hr]; exact .nil
  rcases hx with rfl | rfl <;> exact ⟨rfl, [], this, _, rfl, h⟩
/-- a struct as result -/
theorem finc {P : Program} {fn : Func} {R : Value → World → Prop} {x : Exit} {e : Env} {w : World} {t ty b : Nat} {l : List Value} {t' : TypeId} {fz : Nat × Nat} [ha : Agt P ty l.length] (hx : x = .ret ∨ x = .normal) (hr : fn.results = #[.cell t ty]) (hv : lk e t = some (.pointer (some ⟨b, 0, none⟩)))
    [hb : Has w b (.cells l.toArray t' fz)] (h : R (.agg l.toArray) w) : fin P fn (Ret R) x [] e w := by
  obtain ⟨D, i, h1, h2, h3, h4⟩ := ha.at_
  have := run_loadVar_mid (P := P) w b 0 ty l D (fun j v hj => cell_of hb (by simpa using hj)) h1 (by cases D <;> simp_all) (by simp [h3, h4])
  have : RV P e w fn.results.toList [.agg l.toArray] := by rw [hr]; exact .cell hv this .nil
  rcases hx with rfl | rfl <;> exact ⟨rfl, [.agg l.toArray], this, _, rfl, h⟩

end Go.Kd
namespace Go.Proofs.YtpiegpegjbmlkaaGreatDoor
open Go Go.ChangeShapes Go.WideShapes Go.ChangeAt Go.RowKit
set_option maxRecDepth 100000

theorem own : ownKnob Tryz.prog.godebug = none := by kernel_rfl
theorem laidOut : laidOutB Tryz.prog = true := by kernel_rfl

abbrev theLaid : List (String × DataW Unit) := Rows.fnAlignPartsRow.laid

noncomputable def wit (os : Os) : World := World.laidAll Tryz.prog os theLaid

theorem wit_fits (os : Os) : (World.holding Tryz.prog os ⟨#[], #[], []⟩).layFits Tryz.prog theLaid [] = true := by kernel_rfl
theorem wit_ifaces (os : Os) : (World.holding Tryz.prog os ⟨#[], #[], []⟩).layIfaces Tryz.prog theLaid (World.laidAll Tryz.prog os theLaid) = true := by kernel_rfl
theorem wit_laid (os : Os) (args : Array Value) : laidMet Tryz.prog theLaid ((wit os).forCall (fun _ _ => 0) ⟨#[], args, []⟩).memory :=
  laidMet_laidAll args (wit_fits os) (wit_ifaces os)
theorem wit_shaped (os : Os) (args : Array Value) : ((wit os).forCall (fun _ _ => 0) ⟨#[], args, []⟩).Shaped Tryz.prog :=
  World.shaped_of_ZipB (by kernel_rfl) (by kernel_rfl)

theorem witness_row_shaped {H : Type} {enc : TypeId × Value → H} {C : Checked} {os : Os} {f : FuncId} {fn : Func} {s : OpenSpec} {conds : List PathCond} {apart : Bool} {laid : List (String × DataW Unit)} (modest : Bool) (w0 : World) (args : Array Value) (hos : w0.os = os)
    (hsh : (w0.forCall (fun _ _ => 0) ⟨#[], args, []⟩).Shaped C.prog)
    (hok : Input.okWideB C.prog (w0.forCall (fun _ _ => 0) ⟨#[], args, []⟩) f ⟨#[], args, []⟩ = true)
    (hrow : s.preRow enc C.prog fn conds apart laid (w0.forCall (fun _ _ => 0) ⟨#[], args, []⟩).memory args) :
    ∃ (w : World) (tape : Tape) (i : Input), w.os = os ∧ (w.forCall tape i).Shaped C.prog ∧ i.vars = [] ∧ Input.okWide C.prog (w.forCall tape i) .any w.heap.size f i ∧
      s.preRow enc C.prog fn conds apart laid (w.forCall tape i).memory i.args ∧ ({ modest := modest } : Assume).holds C.prog (lone (Frame.enter C.prog f i.args .normal) [] (w.forCall tape i)) :=
  ⟨w0, fun _ _ => 0, ⟨#[], args, []⟩, hos, hsh, (Input.okWide_of_okWideB (base := 0) hok).1, (Input.okWide_of_okWideB hok).2, hrow, by
    simp only [Assume.holds]
    exact ⟨by simp, by simp, fun _ => Modest.zero, by simp, by simp⟩⟩

/-- the arguments read as they did -/
theorem stays {H : Type} {enc : TypeId × Value → H} {P : Program} (hl : laidOutB P = true) {W W' : World} (hb : Below W.heap.size W W') :
    ∀ (ts : List TypeId) (vs : List Value) (ds : List (DataW H)) (ps : List MemPlace), (ts.all fun t => P.readableRec t && decide (t < P.types.size)) = true → DataW.TrodAll enc P W 0 (fun _ => true) true ts vs ds ps →
    (∀ x ∈ ps, x.block < W.heap.size) → DataW.TrodAll enc P W' 0 (fun b => decide (b < W.heap.size)) true ts vs ds ps
  | [], _, _, _, _, h, _ => by
    obtain ⟨rfl, rfl, rfl⟩ := trodAll_nil h
    exact trodAll_mk0
  | t :: ts, _, _, _, ht, h, hp => by
    obtain ⟨v, vs', d, ds', p, q, rfl, rfl, rfl, h1, h2⟩ := trodAll_cons h
    simp only [List.all_cons, Bool.and_eq_true, decide_eq_true_eq] at ht
    exact trodAll_cons_mk (Below.trod hl ht.1.1 ht.1.2 h1 hb (fun x hx => hp x (List.mem_append_left _ hx)))
      (stays hl hb ts vs' ds' q ht.2 h2 (fun x hx => hp x (List.mem_append_right _ hx)))

/-- a law's post-condition, behind a call that left what was there as it was -/
theorem law_post {H : Type} {enc : TypeId × Value → H} {P : Program} {f : Func} {s : ChangeSpec} {W W' : World} {args : Array Value} {ds gs : List (DataW H)} {before : List MemPlace} {tb : TypeId}
    (hl : laidOutB P = true) (hv : s.vars = []) (hr : f.resultTypes = #[tb]) (htb : P.underlying tb = some .bool) (hps : (f.params.toList.all fun t => P.readableRec t && decide (t < P.types.size)) = true)
    (hW : DataW.Whole enc P f.params.toList s.vars false W args.toList ds gs before) (hf : s.fn H (ds ++ gs) = { results := [.lit (.bool true)], args := ds, vars := [] }) (hx : Kd.Ext W W') :
    s.post enc P f false true false false W args (.bool true) W' := by
  have hlt := fun x hx => hW.lt x hx
  have hW' := hW
  obtain ⟨p, q, hA, hV, rfl, _, _⟩ := hW
  rw [hv] at hV
  obtain ⟨rfl, rfl⟩ := trodVars_none hV
  refine ⟨ds, [], p ++ [], [], p, [], hW', ?_, ?_, ?_, hx.below.frame _, fun h => by cases h⟩
  · rw [hr, hf]; exact trodAll_cons_mk (shut_bool htb _) trodAll_mk0
  · rw [hf]; exact stays hl hx.below _ _ _ _ hps hA (fun x hx => hlt x (List.mem_append_left _ hx))
  · rw [hv, hf]; rfl
end Go.Proofs.YtpiegpegjbmlkaaGreatDoor
namespace Go.Kd
variable {P : Program} {e : Env} {w : World} {d : Option Tmp} {ty t t2 : TypeId} {pos : String} {aft : Array Edge} {g : Option (Nat × Bool)} {x y : Operand}


theorem yld_load_c {b i : Nat} {v : Value} [h : Scl P t] (hx : ev e x = some (.pointer (some ⟨b, i, none⟩))) (hc : w.cell? ⟨b, i, none⟩ = some v) :
    Yld P e ⟨d, .load t x, ty, pos, aft, g⟩ v w := ⟨fun ρ hρ w' hw => by
  obtain ⟨D, j, h1, h2, h3, h4⟩ := h.at_
  have hb : b < w.heap.size := by
    unfold World.cell? at hc
    cases hh : w.heap[b]? with
    | none => simp [hh] at hc
    | some o => exact (Array.getElem?_eq_some_iff.1 hh).1
  have hc' : w'.cell? ⟨b, i, none⟩ = some v := by rw [hw.below.cell (p := ⟨b, i, none⟩) hb]; exact hc
  simp only [execOp, hρ x _ hx, Instr.loadAt, Instr.sureAddr, loadVar, isAgg]
  cases D <;> first
    | (simp at h2; done)
    | (simp [underlying, program, h1, Sem.run, bind, Sem.bind, pure, load, hc'])⟩

theorem Ext.cell {w w' : World} (x : Ext w w') {b i : Nat} {v : Value} (hc : w.cell? ⟨b, i, none⟩ = some v) : w'.cell? ⟨b, i, none⟩ = some v := by
  have hb : b < w.heap.size := by
    unfold World.cell? at hc
    cases hh : w.heap[b]? with
    | none => simp [hh] at hc
    | some o => exact (Array.getElem?_eq_some_iff.1 hh).1
  rw [x.below.cell (p := ⟨b, i, none⟩) hb]; exact hc

/-- a slice of ints, as it came in -/
def Ints (w : World) (sl : Value) (l : List Int) : Prop :=
  (∃ c, sl = .slice none 0 c ∧ l = []) ∨ ∃ b o c, sl = .slice (some ⟨b, o, none⟩) l.length c ∧ ∀ i v, l[i]? = some v → w.cell? ⟨b, o + i, none⟩ = some (.int .i64 v)

theorem Ints.ext {w w' : World} {sl : Value} {l : List Int} (x : Ext w w') (h : Ints w sl l) : Ints w' sl l := by
  rcases h with h | ⟨b, o, c, h1, h2⟩
  · exact .inl h
  · exact .inr ⟨b, o, c, h1, fun i v hv => x.cell (h2 i v hv)⟩
theorem Ints.shape {w : World} {sl : Value} {l : List Int} (h : Ints w sl l) : ∃ a c, sl = .slice a l.length c := by
  rcases h with ⟨c, h1, h2⟩ | ⟨b, o, c, h1, _⟩
  · exact ⟨none, c, by rw [h1, h2]; rfl⟩
  · exact ⟨_, c, h1⟩

/-- an array written out -/
theorem yld_buildArr {el m : Nat} {parts : List (Nat × Operand)} {z r : List Value} {ps : List (Nat × Value)} {sz : Nat} [h : Und P t (.array m el)] [hz : Zro P t z] [hi : Inf P el sz]
    (hp : evP e parts = some ps) (hf : fillO ((List.range m).map fun i => (i * sz, sz)) z ps = some r) : Yld P e ⟨d, .build t parts.toArray, ty, pos, aft, g⟩ (.agg r.toArray) w := ⟨fun ρ hρ w' _ => by
  obtain ⟨i, v, h4, h5, h6⟩ := hz.at_
  obtain ⟨i', h7, h8⟩ := hi.at_
  have hps := evP_spec hρ parts ps hp
  have hplace : ∀ j, ((List.range m).map fun i => (i * sz, sz))[j]? = if j < m then some (j * sz, sz) else none := fun j => by
    by_cases hj : j < m <;> simp [hj]
  have hfill := fillO_spec (fun j => if j < m then some (j * sz, sz) else none) _ hplace ps z r hf
  have hfill2 : Instr.fill (fun i => some (i * sz, sz)) z.toArray ps = some r.toArray := stp_buildSlice.fill_more _ _ (fun j os hj => by
    by_cases hl : j < m
    · simpa [hl] using hj
    · simp [hl] at hj) _ _ _ hfill
  have hb : P.built t ps = some r.toArray := by
    unfold Program.built
    simp only [h4, h.at_, h5, h7, h6, h8]
    exact hfill2
  have hrun := run_build (P := P) w' t (parts.toArray.map fun (i, x) => (i, ρ x)) r.toArray (by
    rw [← hb, ← hps]; congr 1; simp)
  simp only [execOp, Sem.run_bind, hrun, Result.andThen_ok]
  rfl⟩

/-- '==' on two arrays of two ints -/
class NoG (P : Program) (t : TypeId) : Prop where
  at_ : P.eqGuardType P.depth t = false



theorem yld_index_arr {m el : Nat} {cs : List Value} {k : IntKind} {i : Int} {v : Value} [h : Und P t (.array m el)] [hs : Scl P el] (hx : ev e x = some (.agg cs.toArray)) (hy : ev e y = some (.int k i))
    (h0 : 0 ≤ i) (h1 : i < m) (hv : cs[i.toNat]? = some v) : Yld P e ⟨d, .index t x y, ty, pos, aft, g⟩ v w := ⟨fun ρ hρ w' _ => by
  obtain ⟨D, j, h2, h3, h4, h5⟩ := hs.at_
  have hag : (isAgg el).run P w' = .ok false w' := by
    unfold isAgg; rw [Sem.run_bind, run_underlying h2]; cases D <;> first | rfl | (exact h3.elim)
  have hp : (part el cs.toArray (i.toNat * 1)).run P w' = .ok v w' := by
    unfold part
    rw [Sem.run_bind, hag]
    simp [hv]
  simp [execOp, hρ x _ hx, hρ y _ hy, Instr.index, asIntOf, run_underlying h.at_, h0, h1, run_sizeOf h4, h5] at hp ⊢
  simp [hp]⟩

theorem yld_lenS {a : Option Addr} {n c : Nat} {el : TypeId} [h : Und P t (.slice el)] (hx : ev e x = some (.slice a n c)) :
    Yld P e ⟨d, .call ⟨.builtin .len, #[x], #[t]⟩, ty, pos, aft, g⟩ (.int .i64 n) w := yld_len_slice (t := t) hx rfl
theorem yld_lenT {s : ByteArray} [h : Und P t .string] (hx : ev e x = some (.string s)) :
    Yld P e ⟨d, .call ⟨.builtin .len, #[x], #[t]⟩, ty, pos, aft, g⟩ (.int .i64 s.size) w := yld_len_str (t := t) hx rfl

/-- what is known, among what is known -/
def subs (e : Env) : Env → Prop
  | [] => True
  | (i, v) :: r => lk e i = some v ∧ subs e r
theorem sub_of {e e' : Env} (h : subs e e') : ∀ i v, lk e' i = some v → lk e i = some v := by
  induction e' with
  | nil => intro i v hi; simp [lk] at hi
  | cons p r ih =>
    obtain ⟨j, u⟩ := p
    intro i v hi
    rw [lk_cons] at hi
    split at hi
    · rename_i hji; subst hji; cases hi; exact h.1
    · exact ih h.2 i v hi


/-! Short names, for the walks' text. -/
abbrev gY {P : Program} {e : Env} {d : Option Tmp} {ty : TypeId} {pos : String} {aft : Array Edge} {g : Option (Nat × Bool)} {v : Value} {w : World} (o : Op) : Prop := Yld P e ⟨d, o, ty, pos, aft, g⟩ v w
abbrev gU {P : Program} {n : Nat} {ops : List Oper} {Q : Post} {D : List Deferred} {e : Env} {w : World} (l : List Oper) : Prop := WU P n ops Q l D e w
abbrev gW {P : Program} {n : Nat} {Q : Post} {D : List Deferred} {e : Env} {w : World} (c : Code) : Prop := W P n c Q D e w
abbrev gT {K : List Deferred → Env → World → Prop} {Q : Post} {D : List Deferred} {e : Env} {w : World} (o : Exit) : Prop := thn K Q o D e w
abbrev gI {id : Nat} {Q : Post} {D : List Deferred} {e : Env} {w : World} (o : Exit) : Prop := inb id Q o D e w
abbrev ya := @yld_add_in
abbrev yb := @yld_assert1
abbrev yc := @yld_assert_nil
abbrev yd := @yld_assert_no
abbrev ye := @yld_assert_yes
abbrev yf := @yld_assign
abbrev yg := @yld_build
abbrev yh := @yld_eql_bool
abbrev yi := @yld_eql_ifn
abbrev yj := @yld_eql_ifnn
abbrev yk := @yld_eql_ift
abbrev yl := @yld_eql_int
abbrev ym := @yld_eql_mapnil
abbrev yn := @yld_eql_nif
abbrev yo := @yld_eql_nn
abbrev yp := @yld_eql_pn
abbrev yq := @yld_eql_slnil
abbrev yr := @yld_eql_str
abbrev ys := @yld_extract
abbrev yt := @yld_fieldAddr
abbrev yu := @yld_geq_int
abbrev yv := @yld_gtr_int
abbrev yw := @yld_indexAddr
abbrev yx := @yld_lenS
abbrev yy := @yld_lenT
abbrev yz := @yld_leq_int
abbrev za := @yld_load_cell
abbrev zb := @yld_load_whole
abbrev zc := @yld_lss_int
abbrev zd := @yld_makeInterface
abbrev ze := @yld_move
abbrev zf := @yld_neq_bool
abbrev zg := @yld_neq_ifn
abbrev zh := @yld_neq_ifnn
abbrev zi := @yld_neq_ift
abbrev zj := @yld_neq_int
abbrev zk := @yld_neq_mapnil
abbrev zl := @yld_neq_nif
abbrev zm := @yld_neq_nn
abbrev zn := @yld_neq_pn
abbrev zo := @yld_neq_slnil
abbrev zp := @yld_neq_str
abbrev zq := @yld_nilCheck
abbrev zr := @yld_nilCheck_iface
abbrev zs := @yld_not
abbrev zt := @yld_pick
abbrev zu := @yld_pick_f
abbrev zv := @yld_pick_t
abbrev zw := @yld_sub_in
/-! The walks' scripts, each once: a goal is replaced by what the script leaves. -/
structure Wr (p : Prop) : Prop where
  out : p
theorem zyl {P : Program} {e : Env} {o : Oper} {v : Value} {w : World} (h : Yld P e o v w := by first | (guard_target =~ gY (.move _); exact ze rfl) | (guard_target =~ gY (.assign _); exact yf rfl) | (guard_target =~ gY (.load _ _); first | exact za rfl rfl | exact zb rfl) | (guard_target =~ gY (.fieldAddr _ _ _); exact yt rfl) | (guard_target =~ gY (.nilCheck _); first | exact zq rfl | exact zr rfl) | (guard_target =~ gY (.extract _ _); exact ys rfl rfl) | (guard_target =~ gY (.typeAssert _ _ _ true); first | exact ye rfl rfl | exact yd rfl rfl (by first | rfl | assumption) | exact yc rfl rfl) | (guard_target =~ gY (.typeAssert _ _ _ false); exact yb rfl rfl) | (guard_target =~ gY (.makeInterface _ _); exact zd rfl rfl) | (guard_target =~ gY (.pick _ _ _); first | exact zv rfl rfl | exact zu rfl rfl | exact zt rfl rfl rfl) | (guard_target =~ gY (.binOp .neq _ _ _ _); first | exact zj rfl rfl | exact zn rfl rfl | exact zm rfl rfl | exact zg rfl rfl | exact zh rfl rfl | exact zl rfl rfl | exact zf rfl rfl | exact zp rfl rfl | exact zk rfl rfl | exact zo rfl rfl | exact zi (by first | decide | assumption) rfl rfl) | (guard_target =~ gY (.binOp .eql _ _ _ _); first | exact yl rfl rfl | exact yp rfl rfl | exact yo rfl rfl | exact yi rfl rfl | exact yj rfl rfl | exact yn rfl rfl | exact yh rfl rfl | exact yr rfl rfl | exact ym rfl rfl | exact yq rfl rfl | exact yk (by first | decide | assumption) rfl rfl) | (guard_target =~ gY (.unOp .not _ _); exact zs rfl) | (guard_target =~ gY (.binOp .lss _ _ _ _); exact zc rfl rfl) | (guard_target =~ gY (.binOp .leq _ _ _ _); exact yz rfl rfl) | (guard_target =~ gY (.binOp .gtr _ _ _ _); exact yv rfl rfl) | (guard_target =~ gY (.binOp .geq _ _ _ _); exact yu rfl rfl) | (guard_target =~ gY (.binOp .add _ _ _ _); exact ya rfl rfl (by omega)) | (guard_target =~ gY (.binOp .sub _ _ _ _); exact zw rfl rfl (by omega)) | (guard_target =~ gY (.call _); first | exact yx rfl | exact yy rfl) | (guard_target =~ gY (.build _ _); exact yg rfl rfl) | (guard_target =~ gY (.indexAddr _ _ _); first | exact zx rfl rfl (by omega) | exact yw rfl rfl (by omega) (by omega)) | (guard_target =~ gY (.slice _ _ _ _ _); first | exact zya rfl rfl (by omega) (by omega) | exact zyb rfl rfl (by omega) (by omega))) : Yld P e o v w := h
theorem zs1 {G G' : Prop} (h : G') (k : Wr G' → G := by
    intro h
    (first
        | (guard_target =~ gU _; first
            | (guard_target =~ gU []; first | refine WU.nilk ?_ | refine WU.nil ?_)
            | refine WU.yld rfl rfl rfl zyl ?_
            | refine WU.skip rfl rfl rfl ?_)
        | (guard_target =~ gW (.seq _ _); refine W.seq ?_)
        | (guard_target =~ gW (.region _ _ false); refine W.reg ?_)
        | (guard_target =~ gW (.cond _ _ _); first | refine W.cond_t rfl ?_ | refine W.cond_f rfl ?_)
        | (guard_target =~ gW (.block _ _); refine W.block ?_)
        | (guard_target =~ gW .skip; refine W.skip ?_)
        | (guard_target =~ gW (.exit _); refine W.exit ?_)
        | (guard_target =~ gW .ret; refine W.ret ?_)
        | (guard_target =~ gT .normal; refine thn_normal ?_)
        | (guard_target =~ gT (.exit _); refine thn_exit ?_)
        | (guard_target =~ gT .ret; refine thn_ret ?_)
        | (guard_target =~ gI .normal; refine inb_normal ?_)
        | (guard_target =~ gI (.exit _); first | refine inb_hit ?_ | refine inb_miss rfl ?_)
        | (guard_target =~ gI .ret; refine inb_ret ?_))
    exact h.out) : G := k ⟨h⟩
theorem zst {G G' : Prop} (h : G') (k : Wr G' → G := by
    intro h
    repeat (first
        | (guard_target =~ gU _; first
            | (guard_target =~ gU []; first | refine WU.nilk ?_ | refine WU.nil ?_)
            | refine WU.yld rfl rfl rfl zyl ?_
            | refine WU.skip rfl rfl rfl ?_)
        | (guard_target =~ gW (.seq _ _); refine W.seq ?_)
        | (guard_target =~ gW (.region _ _ false); refine W.reg ?_)
        | (guard_target =~ gW (.cond _ _ _); first | refine W.cond_t rfl ?_ | refine W.cond_f rfl ?_)
        | (guard_target =~ gW (.block _ _); refine W.block ?_)
        | (guard_target =~ gW .skip; refine W.skip ?_)
        | (guard_target =~ gW (.exit _); refine W.exit ?_)
        | (guard_target =~ gW .ret; refine W.ret ?_)
        | (guard_target =~ gT .normal; refine thn_normal ?_)
        | (guard_target =~ gT (.exit _); refine thn_exit ?_)
        | (guard_target =~ gT .ret; refine thn_ret ?_)
        | (guard_target =~ gI .normal; refine inb_normal ?_)
        | (guard_target =~ gI (.exit _); first | refine inb_hit ?_ | refine inb_miss rfl ?_)
        | (guard_target =~ gI .ret; refine inb_ret ?_))
    exact h.out) : G := k ⟨h⟩
theorem zsd {G G' : Prop} (h : G') (k : Wr G' → G := by
    intro h
    repeat (first
        | (guard_target =~ WD _ _ _ _ [] _ _ _; first | refine WD.nilk ?_ | refine WD.nil ?_)
        | refine WD.yld rfl rfl rfl rfl zyl ?_
        | refine WD.skip rfl rfl rfl rfl ?_)
    exact h.out) : G := k ⟨h⟩
end Go.Kd
namespace Go.Proofs.YtpiegpegjbmlkaaGreatDoor
open Go Go.Kd

inductive Ty where
  | mk (kind n count : Int) (vr : Bool) (elems : List Ty) (name tag : ByteArray) (emb : Bool)
namespace Ty
def kind : Ty → Int | mk k _ _ _ _ _ _ _ => k
def n : Ty → Int | mk _ n _ _ _ _ _ _ => n
def count : Ty → Int | mk _ _ c _ _ _ _ _ => c
def vr : Ty → Bool | mk _ _ _ v _ _ _ _ => v
def elems : Ty → List Ty | mk _ _ _ _ l _ _ _ => l
def name : Ty → ByteArray | mk _ _ _ _ _ s _ _ => s
def tag : Ty → ByteArray | mk _ _ _ _ _ _ s _ => s
def emb : Ty → Bool | mk _ _ _ _ _ _ _ e => e
def setN : Ty → Int → Ty | mk k _ c v l s g e, m => mk k m c v l s g e
end Ty
structure Me where
  ptr : Bool
  fn : Ty
structure De where
  name : ByteArray
  pkg : Int
  al : Bool
  ty : Ty
  ms : List Me
abbrev eB : ByteArray := ⟨#[]⟩
def anyT : Ty := .mk 9 0 0 false [] eB eB false
/-- what a Named type's declaration is -/
def decl (D : List De) (t : Ty) : Option De := if t.kind = 1 then D[t.n.toNat]? else none
def isAl (D : List De) (t : Ty) : Bool := match decl D t with
  | some e => e.al
  | none => false
def unal1 (D : List De) (t : Ty) : Ty := match decl D t with
  | some e => if e.al then e.ty else t
  | none => t
def norm (t : Ty) : Ty := if t.kind = 0 then (if t.n = 18 then t.setN 7 else if t.n = 19 then t.setN 4 else if t.n = 21 then anyT else t) else t
def rep {α : Type} (f : α → α) : Nat → α → α
  | 0, a => a
  | k + 1, a => f (rep f k a)
def unaliasT (D : List De) (t : Ty) : Ty := norm (rep (unal1 D) D.length t)
def und1 (D : List De) (t : Ty) : Ty := match decl D t with
  | some e => unaliasT D e.ty
  | none => t
def errT : Ty := .mk 9 0 1 false [.mk 8 0 0 false [.mk 0 16 0 false [] eB eB false] ⟨#[69, 114, 114, 111, 114]⟩ eB false] eB eB false
def errN (u : Ty) : Ty := if u.kind = 0 ∧ u.n = 20 then errT else u
def underT (D : List De) (t : Ty) : Ty := errN (rep (und1 D) D.length (unaliasT D t))
def isIfaceT (D : List De) (t : Ty) : Bool := (underT D t).kind == 9

def expo : List UInt8 → Bool
  | c :: _ => decide (65 ≤ c.toNat) && decide (c.toNat ≤ 90)
  | [] => false
def sameNm (s : List UInt8) (p : Int) (s' : List UInt8) (p' : Int) : Bool := s == s' && (p == p' || expo s)

structure Mt where
  name : ByteArray
  pkg : Int
  fn : Ty
def findM (l : List Mt) (s : List UInt8) (p : Int) : Option Mt := l.find? fun m => sameNm m.name.toList m.pkg s p
/-- one more method, unless it is there -/
def addM (out : List Mt) (m : Mt) : List Mt := if (findM out m.name.toList m.pkg).isSome then out else out ++ [m]
def mergeM (c : Int) : Nat → List (List Mt) → List Mt → List Mt
  | _, [], out => out
  | i, l :: L, out => mergeM c (i + 1) L (if (i : Int) < c then out ++ l else l.foldl addM out)

/-- the methods of an interface type -/
inductive IM (D : List De) : Ty → List Mt → Prop
  | no (t : Ty) : (underT D t).kind ≠ 9 → IM D t []
  | yes (t : Ty) (L : List (List Mt)) : (underT D t).kind = 9 → L.length = (underT D t).elems.length →
      (∀ (i : Nat) e l, (underT D t).elems[i]? = some e → L[i]? = some l → (i : Int) < (underT D t).count → l = [⟨e.name, (underT D t).n, e⟩]) →
      (∀ (i : Nat) e l, (underT D t).elems[i]? = some e → L[i]? = some l → ¬ (i : Int) < (underT D t).count → IM D e l) →
      IM D t (mergeM (underT D t).count 0 L [])

/-! ### Trees -/
structure An where
  name : List UInt8
  tag : List UInt8
  pkg : Int
  emb : Bool
inductive X where
  | leaf (k n : Int)
  | node (k n c : Int) (vr : Bool) (an : List An) (es : List X)

def findX : List An → List X → List UInt8 → Int → Option X
  | a :: an, x :: es, s, p => if sameNm a.name a.pkg s p then some x else findX an es s p
  | _, _, _, _ => none
def sameAn (tags : Bool) : List An → List An → Bool
  | [], [] => true
  | a :: an, b :: bn => (sameNm a.name a.pkg b.name b.pkg && a.emb == b.emb && (!tags || a.tag == b.tag)) && sameAn tags an bn
  | _, _ => false
mutual
def idX (tags : Bool) : X → X → Bool
  | .leaf k n, y => match y with
    | .leaf k' n' => k == k' && n == n'
    | .node .. => false
  | .node k n c vr an es, y => match y with
    | .leaf .. => false
    | .node k' n' c' vr' an' es' => k == k' && (if k = 9 then an.length == an'.length && idM tags an es an' es'
      else n == n' && c == c' && vr == vr' && sameAn tags an an' && idL tags es es')
def idL (tags : Bool) : List X → List X → Bool
  | [], ys => ys.isEmpty
  | x :: xs, ys => match ys with
    | [] => false
    | y :: ys => idX tags x y && idL tags xs ys
def idM (tags : Bool) (an : List An) : List X → List An → List X → Bool
  | [], _, _ => true
  | x :: es, an', es' => match an with
    | [] => true
    | a :: an => (match findX an' es' a.name a.pkg with
      | some y => idX tags x y
      | none => false) && idM tags an es an' es'
end

def nN (t : Ty) : Int := if t.kind = 4 ∨ t.kind = 6 then t.n else 0
def cN (t : Ty) : Int := if t.kind = 8 then t.count else 0
def vN (t : Ty) : Bool := if t.kind = 8 then t.vr else false
def anN (t : Ty) : List An := if t.kind = 7 then t.elems.map fun e => ⟨e.name.toList, e.tag.toList, t.n, e.emb⟩ else []
def anM (ms : List Mt) : List An := ms.map fun m => ⟨m.name.toList, [], m.pkg, false⟩

/-- the tree of a type: aliases are gone, interfaces have all their methods; defined types are leaves -/
inductive Exp (D : List De) : Ty → X → Prop
  | leaf (t : Ty) : (unaliasT D t).kind = 0 ∨ (unaliasT D t).kind = 1 → Exp D t (.leaf (unaliasT D t).kind (unaliasT D t).n)
  | plain (t : Ty) (es : List X) : 2 ≤ (unaliasT D t).kind → (unaliasT D t).kind ≤ 8 → es.length = (unaliasT D t).elems.length →
      (∀ (i : Nat) e x, (unaliasT D t).elems[i]? = some e → es[i]? = some x → Exp D e x) →
      Exp D t (.node (unaliasT D t).kind (nN (unaliasT D t)) (cN (unaliasT D t)) (vN (unaliasT D t)) (anN (unaliasT D t)) es)
  | iface (t : Ty) (ms : List Mt) (es : List X) : (unaliasT D t).kind = 9 → IM D (unaliasT D t) ms → es.length = ms.length →
      (∀ (i : Nat) m x, ms[i]? = some m → es[i]? = some x → Exp D m.fn x) → Exp D t (.node 9 0 0 false (anM ms) es)

/-! ### The form of types -/
def elemsN (k : Int) : Int := if k = 0 ∨ k = 1 then 0 else if k = 5 then 2 else if k = 7 ∨ k = 8 ∨ k = 9 then -1 else 1
def limitN (D : List De) (k : Int) : Int := if k = 0 then 22 else if k = 1 then D.length else if k = 4 then -1 else if k = 6 then 3 else if k = 7 ∨ k = 9 then 2 else -2
def holdsT (t : Ty) (j : Nat) (value : Bool) : Bool := if t.kind = 4 ∨ t.kind = 7 then value else if t.kind = 9 then decide (t.count ≤ j) else false
/-- one level of the form -/
structure Shape (D : List De) (i : Nat) (v : Bool) (t : Ty) : Prop where
  lo : 0 ≤ t.kind
  hi : t.kind ≤ 9
  len : 0 ≤ elemsN t.kind → (t.elems.length : Int) = elemsN t.kind
  n0 : -1 ≤ limitN D t.kind → 0 ≤ t.n
  n1 : 0 ≤ limitN D t.kind → t.n < limitN D t.kind
  nm : t.kind = 1 → (v = true ∨ isAl D t = true) → t.n < i
  c0 : t.kind = 8 ∨ t.kind = 9 → 0 ≤ t.count
  c1 : t.kind = 8 ∨ t.kind = 9 → t.count ≤ t.elems.length
  vr : t.kind = 8 → t.vr = true → ∃ e, t.count ≠ 0 ∧ t.elems[(t.count - 1).toNat]? = some e ∧ e.kind = 3
  mth : t.kind = 9 → ∀ (j : Nat) e, t.elems[j]? = some e → (j : Int) < t.count → e.kind = 8
inductive Shaped (D : List De) (i : Nat) : Bool → Ty → Prop
  | mk (v : Bool) (t : Ty) : Shape D i v t → (∀ (j : Nat) e, t.elems[j]? = some e → Shaped D i (holdsT t j v) e) → Shaped D i v t
def ShapedD (D : List De) : Prop := ∀ (i : Nat) e, D[i]? = some e → Shaped D i true e.ty

theorem Shaped.shape {D : List De} {i : Nat} {v : Bool} {t : Ty} (h : Shaped D i v t) : Shape D i v t := by cases h; assumption
theorem Shaped.el {D : List De} {i : Nat} {v : Bool} {t : Ty} (h : Shaped D i v t) : ∀ (j : Nat) e, t.elems[j]? = some e → Shaped D i (holdsT t j v) e := by cases h; assumption

theorem decl_none {D : List De} {t : Ty} (h : t.kind ≠ 1) : decl D t = none := by simp [decl, h]
theorem unal1_id {D : List De} {t : Ty} (h : isAl D t = false) : unal1 D t = t := by
  unfold isAl at h; unfold unal1
  cases hd : decl D t with
  | none => rfl
  | some e => simp only [hd] at h; simp [h]
theorem unal1_al {D : List De} {t : Ty} (h : isAl D t = true) : ∃ e, t.kind = 1 ∧ D[t.n.toNat]? = some e ∧ e.al = true ∧ unal1 D t = e.ty := by
  unfold isAl at h; unfold unal1
  cases hd : decl D t with
  | none => simp [hd] at h
  | some e =>
    simp only [hd] at h
    unfold decl at hd
    split at hd
    · rename_i hk; exact ⟨e, hk, hd, h, by simp [h]⟩
    · cases hd
theorem rep_succ' {α : Type} (f : α → α) : ∀ (k : Nat) (a : α), rep f (k + 1) a = rep f k (f a)
  | 0, _ => rfl
  | k + 1, a => by show f (rep f (k + 1) a) = _; rw [rep_succ' f k a]; rfl
theorem rep_fix {α : Type} {f : α → α} {a : α} (h : f a = a) : ∀ k, rep f k a = a
  | 0 => rfl
  | k + 1 => by rw [rep_succ', h]; exact rep_fix h k
theorem rep_add {α : Type} (f : α → α) (k : Nat) (a : α) : ∀ m, rep f (k + m) a = rep f m (rep f k a)
  | 0 => rfl
  | m + 1 => by show f (rep f (k + m) a) = _; rw [rep_add f k a m]; rfl

theorem isAl_kind {D : List De} {t : Ty} (h : isAl D t = true) : t.kind = 1 := (unal1_al h).choose_spec.1
theorem unalias_lit {D : List De} {t : Ty} (h : isAl D t = false) : unaliasT D t = norm t := by
  unfold unaliasT; rw [rep_fix (unal1_id h)]

/-- where an alias leads to: an earlier declaration's type that is no alias -/
theorem unalias_al {D : List De} (hD : ShapedD D) : ∀ (i : Nat) (t : Ty), i ≤ D.length → isAl D t = true → t.n < i → 0 ≤ t.n → ∃ (j : Nat) (e : De), j < i ∧ D[j]? = some e ∧ e.al = true ∧ isAl D e.ty = false ∧
    rep (unal1 D) i t = e.ty
  | 0, t, _, _, h, h0 => by omega
  | i + 1, t, hi, ha, hn, h0 => by
    obtain ⟨e, hk, he, hal, hu⟩ := unal1_al ha
    rw [rep_succ', hu]
    cases hb : isAl D e.ty with
    | false => exact ⟨t.n.toNat, e, by omega, he, hal, hb, rep_fix (unal1_id hb) i⟩
    | true =>
      have hs := (hD _ e he).shape
      have hk' := isAl_kind hb
      have h1 := hs.nm hk' (.inl rfl)
      have h2 := hs.n0 (by rw [hk']; simp [limitN]; try omega)
      obtain ⟨j, e', hj, h3, h4, h5, h6⟩ := unalias_al hD i e.ty (by omega) hb (by omega) h2
      exact ⟨j, e', by omega, h3, h4, h5, h6⟩

theorem norm_named {t : Ty} (h : t.kind ≠ 0) : norm t = t := by simp [norm, h]
theorem norm_kind1 {t : Ty} (h : (norm t).kind = 1) : t.kind = 1 := by
  unfold norm at h
  split at h
  · rename_i hk
    split at h
    · cases t; simp_all [Ty.kind, Ty.setN]
    · split at h
      · cases t; simp_all [Ty.kind, Ty.setN]
      · split at h
        · simp [anyT, Ty.kind] at h
        · exact h
  · exact h

/-- what Unalias comes to -/
theorem unalias_cases {D : List De} (hD : ShapedD D) {i : Nat} {v : Bool} {t : Ty} (hi : i ≤ D.length) (hs : Shaped D i v t) :
    (isAl D t = false ∧ unaliasT D t = norm t) ∨ ∃ (j : Nat) (e : De), isAl D t = true ∧ j < i ∧ D[j]? = some e ∧ e.al = true ∧ isAl D e.ty = false ∧ unaliasT D t = norm e.ty := by
  cases ha : isAl D t with
  | false => exact .inl ⟨rfl, unalias_lit ha⟩
  | true =>
    have hk := isAl_kind ha
    have h1 := hs.shape.nm hk (.inr ha)
    have h2 := hs.shape.n0 (by rw [hk]; simp [limitN]; try omega)
    obtain ⟨j, e, hj, h3, h4, h5, h6⟩ := unalias_al hD i t hi ha h1 h2
    refine .inr ⟨j, e, rfl, hj, h3, h4, h5, ?_⟩
    unfold unaliasT
    rw [show D.length = i + (D.length - i) from by omega, rep_add, h6, rep_fix (unal1_id h5)]

theorem und1_lit {D : List De} {t : Ty} (h : t.kind ≠ 1) : und1 D t = t := by unfold und1; rw [decl_none h]
theorem und1_nm {D : List De} {t : Ty} {e : De} (h : t.kind = 1) (he : D[t.n.toNat]? = some e) : und1 D t = unaliasT D e.ty := by
  unfold und1 decl; rw [if_pos h, he]
theorem norm_kind_ne {t : Ty} (h : t.kind ≠ 1) : (norm t).kind ≠ 1 := fun h' => h (norm_kind1 h')

theorem und_nm {D : List De} (hD : ShapedD D) : ∀ (i : Nat) (t : Ty), i ≤ D.length → t.kind = 1 → t.n < i → 0 ≤ t.n → ∃ (j : Nat) (e : De), j < i ∧ D[j]? = some e ∧ e.ty.kind ≠ 1 ∧ rep (und1 D) i t = norm e.ty
  | 0, t, _, _, h, h0 => by omega
  | i + 1, t, hi, hk, hn, h0 => by
    have hlt : t.n.toNat < D.length := by omega
    have he : D[t.n.toNat]? = some D[t.n.toNat] := by simp [hlt]
    generalize D[t.n.toNat] = e at he
    rw [rep_succ', und1_nm hk he]
    have hs := hD _ e he
    have fin : ∀ (j : Nat) (e' : De), j ≤ t.n.toNat → D[j]? = some e' → isAl D e'.ty = false → unaliasT D e.ty = norm e'.ty →
        ∃ (j : Nat) (e : De), j < i + 1 ∧ D[j]? = some e ∧ e.ty.kind ≠ 1 ∧ rep (und1 D) i (norm e'.ty) = norm e.ty := by
      intro j e' hj he' hal _
      by_cases hk' : e'.ty.kind = 1
      · have hs' := (hD _ e' he').shape
        have h1 := hs'.nm hk' (.inl rfl)
        have h2 := hs'.n0 (by rw [hk']; simp [limitN]; try omega)
        rw [norm_named (by omega)]
        obtain ⟨j', e2, h3, h4, h5, h6⟩ := und_nm hD i e'.ty (by omega) hk' (by omega) h2
        exact ⟨j', e2, by omega, h4, h5, h6⟩
      · exact ⟨j, e', by omega, he', hk', rep_fix (und1_lit (norm_kind_ne hk')) i⟩
    rcases unalias_cases hD (by omega) hs with ⟨h1, h2⟩ | ⟨j, e', h1, h2, h3, h4, h5, h6⟩
    · rw [h2]; exact fin _ e (Nat.le_refl _) he h1 h2
    · rw [h6]; exact fin j e' (by omega) h3 h5 h6

/-- what Underlying comes to -/
theorem under_cases {D : List De} (hD : ShapedD D) {i : Nat} {v : Bool} {t : Ty} (hi : i ≤ D.length) (hs : Shaped D i v t) :
    (t.kind ≠ 1 ∧ unaliasT D t = norm t ∧ underT D t = errN (norm t)) ∨ ∃ (j : Nat) (e : De), t.kind = 1 ∧ j < D.length ∧ (v = true → j < i) ∧ D[j]? = some e ∧ e.ty.kind ≠ 1 ∧ underT D t = errN (norm e.ty) := by
  by_cases hk : t.kind = 1
  · right
    have h0 := hs.shape.n0 (by rw [hk]; simp [limitN]; try omega)
    have h1 := hs.shape.n1 (by rw [hk]; simp [limitN])
    rw [hk] at h1
    simp [limitN] at h1
    rcases unalias_cases hD hi hs with ⟨h2, h3⟩ | ⟨j, e, h2, hj, h3, h4, h5, h6⟩
    · have h3' := h3
      rw [norm_named (by omega)] at h3
      unfold underT
      rw [h3]
      by_cases hv : v = true
      · obtain ⟨j, e, hj, he, hk', hr⟩ := und_nm hD i t hi hk (hs.shape.nm hk (.inl hv)) h0
        refine ⟨j, e, hk, by omega, fun _ => hj, he, hk', ?_⟩
        rw [show D.length = i + (D.length - i) from by omega, rep_add, hr, rep_fix (und1_lit (norm_kind_ne hk'))]
      · obtain ⟨j, e, hj, he, hk', hr⟩ := und_nm hD D.length t (Nat.le_refl _) hk h1 h0
        exact ⟨j, e, hk, hj, fun h => absurd h hv, he, hk', by rw [hr]⟩
    · unfold underT
      rw [h6]
      by_cases hk' : e.ty.kind = 1
      · have hs' := (hD _ e h3).shape
        have h7 := hs'.nm hk' (.inl rfl)
        have h8 := hs'.n0 (by rw [hk']; simp [limitN]; try omega)
        rw [norm_named (by omega)]
        obtain ⟨j', e2, hj', he, hk2, hr⟩ := und_nm hD j e.ty (by omega) hk' h7 h8
        refine ⟨j', e2, hk, by omega, fun _ => by omega, he, hk2, ?_⟩
        rw [show D.length = j + (D.length - j) from by omega, rep_add, hr, rep_fix (und1_lit (norm_kind_ne hk2))]
      · exact ⟨j, e, hk, by omega, fun _ => hj, h3, hk', by rw [rep_fix (und1_lit (norm_kind_ne hk'))]⟩
  · left
    have hal : isAl D t = false := by
      cases h : isAl D t with
      | false => rfl
      | true => exact absurd (isAl_kind h) hk
    refine ⟨hk, unalias_lit hal, ?_⟩
    unfold underT
    rw [unalias_lit hal, rep_fix (und1_lit (norm_kind_ne hk))]

theorem norm_cases (t : Ty) : (t.kind ≠ 0 ∧ norm t = t) ∨ (t.kind = 0 ∧ (norm t).kind = 0 ∧ (norm t).elems = t.elems ∧ (norm t).n = (if t.n = 18 then 7 else if t.n = 19 then 4 else t.n) ∧ t.n ≠ 21) ∨ (t.kind = 0 ∧ t.n = 21 ∧ norm t = anyT) := by
  by_cases h : t.kind = 0
  · right
    unfold norm
    rw [if_pos h]
    obtain ⟨k, n, c, v, l, s, g, e⟩ := t
    simp only [Ty.kind] at h
    subst h
    by_cases h1 : n = 18
    · left; subst h1; simp [Ty.kind, Ty.n, Ty.setN, Ty.elems]
    · by_cases h2 : n = 19
      · left; subst h2; simp [Ty.kind, Ty.n, Ty.setN, Ty.elems]
      · by_cases h3 : n = 21
        · right; subst h3; simp [Ty.kind, Ty.n]
        · left; simp [Ty.kind, Ty.n, Ty.elems, h1, h2, h3]
  · left; exact ⟨h, norm_named h⟩


theorem errN_kind_ne {u : Ty} (h : u.kind ≠ 0) : errN u = u := by simp [errN, h]

def vstr : Ty := .mk 0 16 0 false [] eB eB false
theorem exp_leaf {D : List De} {t : Ty} (h : isAl D t = false) (hk : (norm t).kind = 0 ∨ (norm t).kind = 1) : Exp D t (.leaf (norm t).kind (norm t).n) := by
  have := unalias_lit h
  have h2 := Exp.leaf (D := D) t
  rw [this] at h2
  exact h2 hk
theorem isAl_lit {D : List De} {t : Ty} (h : t.kind ≠ 1) : isAl D t = false := by unfold isAl; rw [decl_none h]

def errFn : Ty := .mk 8 0 0 false [.mk 0 16 0 false [] eB eB false] ⟨#[69, 114, 114, 111, 114]⟩ eB false
theorem exp_errFn (D : List De) : Exp D errFn (.node 8 0 0 false [] [.leaf 0 16]) := by
  have hu : unaliasT D errFn = errFn := by rw [unalias_lit (isAl_lit (by decide))]; rfl
  have h := Exp.plain (D := D) errFn [.leaf 0 16]
  rw [hu] at h
  refine h (by decide) (by decide) rfl fun i e x he hx => ?_
  match i with
  | 0 =>
    simp [errFn, Ty.elems] at he hx
    subst he; subst hx
    have := exp_leaf (D := D) (t := vstr) (isAl_lit (by decide)) (.inl rfl)
    exact this
  | i + 1 => simp at hx

/-- for lists: a choice for each place -/
theorem choose_list {α β : Type} (R : Nat → α → β → Prop) : ∀ (l : List α), (∀ (i : Nat) a, l[i]? = some a → ∃ b, R i a b) → ∃ m : List β, m.length = l.length ∧ ∀ (i : Nat) a b, l[i]? = some a → m[i]? = some b → R i a b := by
  intro l
  suffices h : ∀ (l : List α) (k : Nat), (∀ (i : Nat) a, l[i]? = some a → ∃ b, R (k + i) a b) → ∃ m : List β, m.length = l.length ∧ ∀ (i : Nat) a b, l[i]? = some a → m[i]? = some b → R (k + i) a b by
    intro h'
    obtain ⟨m, h1, h2⟩ := h l 0 (by simpa using h')
    exact ⟨m, h1, by simpa using h2⟩
  intro l
  induction l with
  | nil => intro k _; exact ⟨[], rfl, by simp⟩
  | cons a l ih =>
    intro k h
    obtain ⟨b, hb⟩ := h 0 a rfl
    obtain ⟨m, hm, h2⟩ := ih (k + 1) fun i a' ha => by have := h (i + 1) a' (by simpa using ha); rwa [show k + (i + 1) = k + 1 + i from by omega] at this
    refine ⟨b :: m, by simp [hm], fun i a' b' ha hb' => ?_⟩
    match i with
    | 0 => simp at ha hb'; subst ha; subst hb'; exact hb
    | i + 1 => have := h2 i a' b' (by simpa using ha) (by simpa using hb'); rwa [show k + (i + 1) = k + 1 + i from by omega]

theorem mem_merge {P : Mt → Prop} (c : Int) : ∀ (i : Nat) (L : List (List Mt)) (out : List Mt), (∀ m ∈ out, P m) → (∀ l ∈ L, ∀ m ∈ l, P m) → ∀ m ∈ mergeM c i L out, P m
  | _, [], out, ho, _ => ho
  | i, l :: L, out, ho, hL => by
    have hl : ∀ m ∈ l, P m := hL l (List.mem_cons_self ..)
    have hf : ∀ (l out : List Mt), (∀ m ∈ out, P m) → (∀ m ∈ l, P m) → ∀ m ∈ l.foldl addM out, P m := by
      intro l
      induction l with
      | nil => intro out h _; exact h
      | cons a l ih =>
        intro out h1 h2
        refine ih _ ?_ fun m hm => h2 m (List.mem_cons_of_mem _ hm)
        unfold addM
        split
        · exact h1
        · intro m hm
          simp at hm
          rcases hm with hm | rfl
          · exact h1 m hm
          · exact h2 _ (List.mem_cons_self ..)
    refine mem_merge c (i + 1) L _ ?_ fun l' h' => hL l' (List.mem_cons_of_mem _ h')
    split
    · intro m hm
      simp at hm
      rcases hm with hm | hm
      · exact ho m hm
      · exact hl m hm
    · exact hf l out ho hl

/-- every type of the right form has a tree -/
theorem exists_exp {D : List De} (hD : ShapedD D) : ∀ (i : Nat), i ≤ D.length → ∀ (v : Bool) (t : Ty), Shaped D i v t →
    (∃ x, Exp D t x) ∧ ((v = true ∨ t.kind ≠ 1) → ∃ ms, IM D t ms ∧ ∀ m ∈ ms, ∃ x, Exp D m.fn x) := by
  intro i
  induction i using Nat.strongRecOn with
  | _ i ih =>
  intro hi v t hs
  -- an interface's methods, out of its elements'
  have key : ∀ (t u : Ty), underT D t = u → (u.kind = 9 → ∀ (j : Nat) e, u.elems[j]? = some e → ((j : Int) < u.count → ∃ x, Exp D e x) ∧ (¬ (j : Int) < u.count → ∃ ms, IM D e ms ∧ ∀ m ∈ ms, ∃ x, Exp D m.fn x)) →
      ∃ ms, IM D t ms ∧ ∀ m ∈ ms, ∃ x, Exp D m.fn x := by
    intro t u hu hel
    subst hu
    by_cases hk : (underT D t).kind = 9
    · have h9 := hel hk
      obtain ⟨L, hL, hR⟩ := choose_list (fun (j : Nat) (e : Ty) (l : List Mt) => ((j : Int) < (underT D t).count → l = [⟨e.name, (underT D t).n, e⟩]) ∧ (¬ (j : Int) < (underT D t).count → IM D e l) ∧ ∀ m ∈ l, ∃ x, Exp D m.fn x)
        (underT D t).elems fun j e he => by
          by_cases hc : (j : Int) < (underT D t).count
          · obtain ⟨x, hx⟩ := (h9 j e he).1 hc
            exact ⟨[⟨e.name, (underT D t).n, e⟩], fun _ => rfl, fun h => absurd hc h, fun m hm => by simp at hm; subst hm; exact ⟨x, hx⟩⟩
          · obtain ⟨ms, h1, h2⟩ := (h9 j e he).2 hc
            exact ⟨ms, fun h => absurd h hc, fun _ => h1, h2⟩
      refine ⟨_, IM.yes t L hk hL (fun j e l he hl => (hR j e l he hl).1) (fun j e l he hl => (hR j e l he hl).2.1), ?_⟩
      refine mem_merge _ _ _ _ (by simp) fun l hl m hm => ?_
      obtain ⟨j, hj⟩ := List.getElem?_of_mem hl
      have hlt : j < (underT D t).elems.length := by rw [← hL]; exact (List.getElem?_eq_some_iff.1 hj).1
      exact (hR j _ l (List.getElem?_eq_getElem hlt) hj).2.2 m hm
    · exact ⟨[], .no t hk, by simp⟩
  -- the same, where the underlying type is that of a declaration or of a literal whose elements are known
  have key2 : ∀ (t b : Ty), underT D t = errN (norm b) → (b.kind = 9 → ∀ (j : Nat) e, b.elems[j]? = some e → ((j : Int) < b.count → ∃ x, Exp D e x) ∧ (¬ (j : Int) < b.count → ∃ ms, IM D e ms ∧ ∀ m ∈ ms, ∃ x, Exp D m.fn x)) →
      ∃ ms, IM D t ms ∧ ∀ m ∈ ms, ∃ x, Exp D m.fn x := by
    intro t b hb hel
    refine key t _ hb fun h9 j e he => ?_
    rcases norm_cases b with ⟨h1, h2⟩ | ⟨h1, h2, _⟩ | ⟨_, _, h⟩
    · rw [h2, errN_kind_ne h1] at h9 he ⊢
      exact hel h9 j e he
    · unfold errN at h9 he ⊢
      split at h9
      · rename_i hc
        simp only [hc, and_self, if_true] at he ⊢
        match j with
        | 0 =>
          simp [errT, Ty.elems] at he
          subst he
          exact ⟨fun _ => ⟨_, exp_errFn D⟩, fun h => by simp [errT, Ty.count] at h⟩
        | j + 1 => simp [errT, Ty.elems] at he
      · omega
    · rw [h] at he
      simp [errN, anyT, Ty.kind, Ty.elems] at he
  induction hs with
  | mk v t hsh hel ihel =>
  have him : ∀ (j : Nat) e, t.elems[j]? = some e → t.kind = 9 → ¬ (j : Int) < t.count → ∃ ms, IM D e ms ∧ ∀ m ∈ ms, ∃ x, Exp D m.fn x := fun j e he h9 hc => by
    refine (ihel j e he).2 (.inl ?_)
    simp [holdsT, h9]
    omega
  have hIM : (v = true ∨ t.kind ≠ 1) → ∃ ms, IM D t ms ∧ ∀ m ∈ ms, ∃ x, Exp D m.fn x := by
    intro hv
    rcases under_cases hD hi (.mk v t hsh hel) with ⟨h1, h2, h3⟩ | ⟨j, e, h1, h2, h3, h4, h5, h6⟩
    · exact key2 t t h3 fun h9 j e he => ⟨fun _ => (ihel j e he).1, him j e he h9⟩
    · have hvt : v = true := hv.resolve_right (fun h => h h1)
      have hs' := hD j e h4
      refine key2 t e.ty h6 fun h9 k e' he' => ?_
      have hse := hs'.el k e' he'
      have := ih j (h3 hvt) (by omega) _ e' hse
      exact ⟨fun _ => this.1, fun hc => this.2 (.inl (by simp [holdsT, h9]; omega))⟩
  refine ⟨?_, hIM⟩
  -- the tree
  have plain : ∀ (u : Ty), unaliasT D t = u → 2 ≤ u.kind → u.kind ≤ 8 → (∀ (j : Nat) e, u.elems[j]? = some e → ∃ x, Exp D e x) → ∃ x, Exp D t x := by
    intro u hu h2 h8 hx
    subst hu
    obtain ⟨es, h1, h3⟩ := choose_list (fun (_ : Nat) e x => Exp D e x) (unaliasT D t).elems hx
    exact ⟨_, Exp.plain t es h2 h8 h1 h3⟩
  have iface : ∀ (u : Ty), unaliasT D t = u → u.kind = 9 → (∃ ms, IM D u ms ∧ ∀ m ∈ ms, ∃ x, Exp D m.fn x) → ∃ x, Exp D t x := by
    intro u hu h9 ⟨ms, h1, h2⟩
    subst hu
    obtain ⟨es, h3, h4⟩ := choose_list (fun (_ : Nat) (m : Mt) x => Exp D m.fn x) ms (fun j m hm => h2 m (List.mem_of_getElem? hm))
    exact ⟨_, Exp.iface t ms es h9 h1 h3 h4⟩
  have lit : ∀ (b : Ty) (w : Bool), Shape D i w b ∨ True → 0 ≤ b.kind → b.kind ≤ 9 → unaliasT D t = norm b → (b.kind = 1 → unaliasT D t = b) →
      (∀ (j : Nat) e, b.elems[j]? = some e → ∃ x, Exp D e x) → (b.kind = 9 → ∃ ms, IM D b ms ∧ ∀ m ∈ ms, ∃ x, Exp D m.fn x) → ∃ x, Exp D t x := by
    intro b w _ hl hh hu _ hx hI
    rcases norm_cases b with ⟨h1, h2⟩ | ⟨h1, h2, _⟩ | ⟨_, _, h⟩
    · rw [h2] at hu
      by_cases hk : b.kind = 1
      · exact ⟨_, Exp.leaf t (.inr (by rw [hu]; exact hk))⟩
      · by_cases h9 : b.kind = 9
        · exact iface b hu h9 (hI h9)
        · exact plain b hu (by omega) (by omega) hx
    · exact ⟨_, Exp.leaf t (.inl (by rw [hu]; exact h2))⟩
    · rw [h] at hu
      refine iface anyT hu rfl (key2 anyT anyT ?_ fun _ j e he => by simp [anyT, Ty.elems] at he)
      unfold underT
      rw [unalias_lit (isAl_lit (by decide)), rep_fix (und1_lit (by decide))]
  rcases unalias_cases hD hi (.mk v t hsh hel) with ⟨h1, h2⟩ | ⟨j, e, h1, h2, h3, h4, h5, h6⟩
  · exact lit t v (.inr trivial) hsh.lo hsh.hi h2 (fun h => by rw [h2, norm_named (by omega)]) (fun j e he => (ihel j e he).1) (fun h9 => hIM (.inr (by omega)))
  · have hs' := hD j e h3
    refine lit e.ty true (.inr trivial) hs'.shape.lo hs'.shape.hi h6 (fun h => by rw [h6, norm_named (by omega)]) (fun k e' he' => (ih j h2 (by omega) _ e' (hs'.el k e' he')).1) (fun h9 => ?_)
    exact (ih j h2 (by omega) true e.ty hs').2 (.inl rfl)

theorem Ty.ind {P : Ty → Prop} (h : ∀ t : Ty, (∀ (i : Nat) e, t.elems[i]? = some e → P e) → P t) : ∀ t, P t
  | .mk k n c v es s g e => h _ fun i a ha => by
    have : a ∈ es := List.mem_of_getElem? ha
    exact Ty.ind h a
end Go.Proofs.YtpiegpegjbmlkaaGreatDoor
namespace Go.Proofs.YtpiegpegjbmlkaaGreatDoor
open Go Go.Kd

theorem X.ind {P : X → Prop} (hl : ∀ k n, P (.leaf k n)) (hn : ∀ k n c vr an es, (∀ e ∈ es, P e) → P (.node k n c vr an es)) : ∀ x, P x
  | .leaf k n => hl k n
  | .node k n c vr an es => hn _ _ _ _ _ _ fun e _ => X.ind hl hn e

/-- what a name is, apart from its package if it is exported -/
def keyOf (s : List UInt8) (p : Int) : List UInt8 × Int := (s, if expo s then -1 else p)
theorem sameNm_iff {s s' : List UInt8} {p p' : Int} : sameNm s p s' p' = true ↔ keyOf s p = keyOf s' p' := by
  unfold sameNm keyOf
  simp only [Bool.and_eq_true, beq_iff_eq, Bool.or_eq_true, Prod.mk.injEq]
  constructor
  · rintro ⟨rfl, h⟩
    refine ⟨rfl, ?_⟩
    rcases h with h | h
    · rw [h]
    · simp [h]
  · rintro ⟨rfl, h⟩
    refine ⟨rfl, ?_⟩
    by_cases hs : expo s = true
    · exact .inr hs
    · rw [if_neg hs, if_neg hs] at h; exact .inl h
abbrev keyA (a : An) : List UInt8 × Int := keyOf a.name a.pkg

theorem sub_len {α : Type} [DecidableEq α] : ∀ (l l' : List α), l.Nodup → (∀ a ∈ l, a ∈ l') → l.length ≤ l'.length
  | [], _, _, _ => by simp
  | a :: r, l', hn, hs => by
    have ha := hs a (List.mem_cons_self ..)
    have hn' := List.nodup_cons.1 hn
    have h := sub_len r (l'.erase a) hn'.2 fun b hb => (List.mem_erase_of_ne (fun h => hn'.1 (by rw [← h]; exact hb))).2 (hs b (List.mem_cons_of_mem _ hb))
    rw [List.length_erase_of_mem ha] at h
    have : 0 < l'.length := List.length_pos_of_mem ha
    simp; omega
theorem sub_all {α : Type} [DecidableEq α] {l l' : List α} (hn : l.Nodup) (hs : ∀ a ∈ l, a ∈ l') (hl : l'.length ≤ l.length) : ∀ b ∈ l', b ∈ l := fun b hb => by
  refine Classical.byContradiction fun h => ?_
  have := sub_len (b :: l) l' (List.nodup_cons.2 ⟨h, hn⟩) fun a ha => by
    rcases List.mem_cons.1 ha with rfl | ha
    · exact hb
    · exact hs a ha
  simp at this; omega

theorem findX_some : ∀ (an : List An) (es : List X) (s : List UInt8) (p : Int) (y : X), findX an es s p = some y → ∃ (j : Nat) (a : An), an[j]? = some a ∧ es[j]? = some y ∧ keyA a = keyOf s p
  | [], _, s, p, y, h => by simp [findX] at h
  | a :: an, [], s, p, y, h => by simp [findX] at h
  | a :: an, x :: es, s, p, y, h => by
    simp only [findX] at h
    split at h
    · rename_i hk
      cases h
      exact ⟨0, a, rfl, rfl, sameNm_iff.1 hk⟩
    · obtain ⟨j, b, h1, h2, h3⟩ := findX_some an es s p y h
      exact ⟨j + 1, b, by simpa using h1, by simpa using h2, h3⟩
theorem findX_at : ∀ (an : List An) (es : List X) (j : Nat) (a : An) (y : X) (s : List UInt8) (p : Int), (an.map keyA).Nodup → an[j]? = some a → es[j]? = some y → keyA a = keyOf s p → findX an es s p = some y
  | [], _, _, _, _, _, _, _, h, _, _ => by simp at h
  | _ :: _, [], _, _, _, _, _, _, _, h, _ => by simp at h
  | b :: an, x :: es, j, a, y, s, p, hn, h1, h2, hk => by
    simp only [findX]
    have hn' := List.nodup_cons.1 hn
    match j with
    | 0 =>
      simp at h1 h2
      subst h1; subst h2
      rw [if_pos (sameNm_iff.2 hk)]
    | j + 1 =>
      simp at h1 h2
      rw [if_neg (fun h => hn'.1 ?_)]
      · exact findX_at an es j a y s p hn'.2 h1 h2 hk
      · have := sameNm_iff.1 h
        show keyA b ∈ _
        rw [show keyA b = keyA a from this.trans hk.symm]
        exact List.mem_map_of_mem (List.mem_of_getElem? h1)

theorem idL_iff (tags : Bool) : ∀ (xs ys : List X), idL tags xs ys = true ↔ xs.length = ys.length ∧ ∀ (i : Nat) x y, xs[i]? = some x → ys[i]? = some y → idX tags x y = true
  | [], ys => by
    rw [idL]
    cases ys <;> simp
  | x :: xs, [] => by rw [idL]; simp
  | x :: xs, y :: ys => by
    rw [idL]
    simp only [Bool.and_eq_true, idL_iff tags xs ys, List.length_cons, Nat.add_right_cancel_iff]
    constructor
    · rintro ⟨h1, h2, h3⟩
      refine ⟨h2, fun i a b ha hb => ?_⟩
      match i with
      | 0 => simp at ha hb; subst ha; subst hb; exact h1
      | i + 1 => exact h3 i a b (by simpa using ha) (by simpa using hb)
    · rintro ⟨h2, h3⟩
      exact ⟨h3 0 x y rfl rfl, h2, fun i a b ha hb => h3 (i + 1) a b (by simpa using ha) (by simpa using hb)⟩

theorem idM_iff (tags : Bool) (an' : List An) (es' : List X) : ∀ (es : List X) (an : List An), an.length = es.length →
    (idM tags an es an' es' = true ↔ ∀ (i : Nat) a x, an[i]? = some a → es[i]? = some x → ∃ y, findX an' es' a.name a.pkg = some y ∧ idX tags x y = true)
  | [], an, _ => by rw [idM]; simp
  | x :: es, [], h => by simp at h
  | x :: es, a :: an, h => by
    rw [idM]
    simp only [Bool.and_eq_true, idM_iff tags an' es' es an (by simpa using h)]
    constructor
    · rintro ⟨h1, h2⟩ i b y hb hy
      match i with
      | 0 =>
        simp at hb hy; subst hb; subst hy
        split at h1
        · exact ⟨_, by assumption, h1⟩
        · cases h1
      | i + 1 => exact h2 i b y (by simpa using hb) (by simpa using hy)
    · intro h2
      refine ⟨?_, fun i b y hb hy => h2 (i + 1) b y (by simpa using hb) (by simpa using hy)⟩
      obtain ⟨y, hy, hi⟩ := h2 0 a x rfl rfl
      rw [hy]; exact hi

theorem sameAn_iff (tags : Bool) : ∀ (an bn : List An), sameAn tags an bn = true ↔ an.length = bn.length ∧ ∀ (i : Nat) a b, an[i]? = some a → bn[i]? = some b → keyA a = keyA b ∧ a.emb = b.emb ∧ (tags = true → a.tag = b.tag)
  | [], bn => by cases bn <;> simp [sameAn]
  | a :: an, [] => by simp [sameAn]
  | a :: an, b :: bn => by
    simp only [sameAn, Bool.and_eq_true, sameAn_iff tags an bn, List.length_cons, Nat.add_right_cancel_iff, sameNm_iff, beq_iff_eq, Bool.or_eq_true, Bool.not_eq_true']
    constructor
    · rintro ⟨⟨⟨h1, h4⟩, h5⟩, h2, h3⟩
      refine ⟨h2, fun i a' b' ha hb => ?_⟩
      match i with
      | 0 =>
        simp at ha hb; subst ha; subst hb
        exact ⟨h1, h4, fun ht => h5.resolve_left (by simp [ht])⟩
      | i + 1 => exact h3 i a' b' (by simpa using ha) (by simpa using hb)
    · rintro ⟨h2, h3⟩
      have h0 := h3 0 a b rfl rfl
      refine ⟨⟨⟨h0.1, h0.2.1⟩, ?_⟩, h2, fun i a' b' ha hb => h3 (i + 1) a' b' (by simpa using ha) (by simpa using hb)⟩
      cases tags
      · exact .inl rfl
      · exact .inr (h0.2.2 rfl)

/-- interfaces have each name once -/
inductive WfX : X → Prop
  | leaf (k n : Int) : WfX (.leaf k n)
  | node (k n c : Int) (vr : Bool) (an : List An) (es : List X) : (k = 9 → an.length = es.length ∧ (an.map keyA).Nodup) → (∀ e ∈ es, WfX e) → WfX (.node k n c vr an es)

theorem idX_node {tags : Bool} {k n c k' n' c' : Int} {vr vr' : Bool} {an an' : List An} {es es' : List X} : idX tags (.node k n c vr an es) (.node k' n' c' vr' an' es') = (k == k' && (if k = 9 then an.length == an'.length && idM tags an es an' es'
      else n == n' && c == c' && vr == vr' && sameAn tags an an' && idL tags es es')) := by simp only [idX]
theorem idX_refl (tags : Bool) : ∀ x, WfX x → idX tags x x = true := by
  refine X.ind (fun k n _ => by rw [idX]; simp) fun k n c vr an es ih hw => ?_
  rw [idX_node]
  cases hw with
  | node _ _ _ _ _ _ hk he =>
  simp only [beq_self_eq_true, Bool.true_and, Bool.and_true]
  split
  · rename_i h9
    obtain ⟨hl, hn⟩ := hk h9
    rw [idM_iff tags an es es an hl]
    intro i a x ha hx
    exact ⟨x, findX_at an es i a x _ _ hn ha hx rfl, ih x (List.mem_of_getElem? hx) (he x (List.mem_of_getElem? hx))⟩
  · rw [Bool.and_eq_true]
    refine ⟨(sameAn_iff tags an an).2 ⟨rfl, fun i a b ha hb => ?_⟩, (idL_iff tags es es).2 ⟨rfl, fun i a b ha hb => ?_⟩⟩
    · rw [ha] at hb; cases hb; exact ⟨rfl, rfl, fun _ => rfl⟩
    · rw [ha] at hb; cases hb; exact ih a (List.mem_of_getElem? ha) (he a (List.mem_of_getElem? ha))

theorem idX_leaf {tags : Bool} {k n : Int} {y : X} (h : idX tags (.leaf k n) y = true) : y = .leaf k n := by
  cases y with
  | leaf k' n' => simp only [idX, Bool.and_eq_true, beq_iff_eq] at h; rw [h.1, h.2]
  | node => simp [idX] at h





end Go.Proofs.YtpiegpegjbmlkaaGreatDoor
namespace Go.Proofs.YtpiegpegjbmlkaaGreatDoor
open Go Go.Kd

mutual
def wt : Ty → Nat
  | .mk _ _ _ _ es nm tg _ => 1 + (nm.size + tg.size) + wts es
def wts : List Ty → Nat
  | [] => 0
  | e :: r => wt e + wts r
end
theorem wt_eq (t : Ty) : wt t = 1 + (t.name.size + t.tag.size) + wts t.elems := by cases t; simp only [wt, Ty.elems, Ty.name, Ty.tag]
theorem wt_pos (t : Ty) : 0 < wt t := by rw [wt_eq]; omega
theorem wts_mem : ∀ {l : List Ty} {e : Ty}, e ∈ l → wt e ≤ wts l
  | a :: r, e, h => by
    simp only [wts]
    rcases List.mem_cons.1 h with rfl | h
    · omega
    · have := wts_mem h; omega
theorem wts_len : ∀ (l : List Ty), l.length ≤ wts l
  | [] => by simp [wts]
  | a :: r => by have := wts_len r; have := wt_pos a; simp only [wts, List.length_cons]; omega
theorem wt_el {t : Ty} {i : Nat} {e : Ty} (h : t.elems[i]? = some e) : wt e < wt t := by
  have := wts_mem (List.mem_of_getElem? h); rw [wt_eq t]; omega
theorem wt_len (t : Ty) : t.elems.length < wt t := by have := wts_len t.elems; rw [wt_eq t]; omega
def wtM (l : List Me) : Nat := (l.map fun m => wt m.fn).sum
theorem wtM_mem : ∀ {l : List Me} {m : Me}, m ∈ l → wt m.fn ≤ wtM l
  | a :: r, m, h => by
    simp only [wtM, List.map_cons, List.sum_cons]
    rcases List.mem_cons.1 h with rfl | h
    · omega
    · have := wtM_mem h; unfold wtM at this; omega
theorem wtM_len : ∀ l : List Me, l.length ≤ wtM l
  | [] => Nat.zero_le _
  | a :: r => by
    have := wtM_len r
    have := wt_pos a.fn
    simp only [wtM, List.map_cons, List.sum_cons, List.length_cons]
    unfold wtM at *
    omega
def wtDe (e : De) : Nat := wt e.ty + (e.name.size + wtM e.ms)
def wtD (D : List De) : Nat := (D.map wtDe).sum
theorem wtD_mem' : ∀ {D : List De} {e : De}, e ∈ D → wtDe e ≤ wtD D
  | a :: r, e, h => by
    simp only [wtD, List.map_cons, List.sum_cons]
    rcases List.mem_cons.1 h with rfl | h
    · omega
    · have := wtD_mem' h; unfold wtD at this; omega
theorem wtD_mem {D : List De} {e : De} (h : e ∈ D) : wt e.ty ≤ wtD D := by have := wtD_mem' h; unfold wtDe at this; omega

abbrev Key := List UInt8 × Int
/-- all names of elements within -/
def ks : Ty → List Key
  | .mk _ n _ _ es _ _ _ => ksl n es
where
  ksl (n : Int) : List Ty → List Key
  | [] => []
  | e :: r => keyOf e.name.toList n :: (ks e ++ ksl n r)
theorem ks_eq (t : Ty) : ks t = ks.ksl t.n t.elems := by cases t; simp only [ks, Ty.elems, Ty.n]
theorem ks_mem {n : Int} : ∀ {l : List Ty} {e : Ty}, e ∈ l → keyOf e.name.toList n ∈ ks.ksl n l ∧ ∀ k ∈ ks e, k ∈ ks.ksl n l
  | a :: r, e, h => by
    simp only [ks.ksl, List.mem_cons, List.mem_append]
    rcases List.mem_cons.1 h with rfl | h
    · exact ⟨.inl rfl, fun k hk => .inr (.inl hk)⟩
    · have := ks_mem (n := n) h
      exact ⟨.inr (.inr this.1), fun k hk => .inr (.inr (this.2 k hk))⟩
mutual
theorem ks_len : ∀ t : Ty, (ks t).length < wt t
  | .mk _ n _ _ es _ _ _ => by simp only [ks, wt]; have := ksl_len n es; omega
theorem ksl_len (n : Int) : ∀ l : List Ty, (ks.ksl n l).length ≤ wts l
  | [] => by simp [ks.ksl, wts]
  | e :: r => by
    have := ks_len e
    have := ksl_len n r
    simp only [ks.ksl, wts, List.length_cons, List.length_append]; omega
end
def ksD (D : List De) : List Key := (D.map fun e => ks e.ty).flatten
theorem ksD_mem {D : List De} {e : De} (h : e ∈ D) : ∀ k ∈ ks e.ty, k ∈ ksD D := fun k hk => by
  unfold ksD
  rw [List.mem_flatten]
  exact ⟨_, List.mem_map_of_mem h, hk⟩
theorem ksD_len : ∀ D : List De, (ksD D).length ≤ wtD D
  | [] => by simp [ksD, wtD]
  | e :: r => by
    have h1 := ksD_len r
    have h2 := ks_len e.ty
    unfold ksD wtD at *
    simp only [List.map_cons, List.flatten_cons, List.length_append, List.sum_cons]
    have h3 : wt e.ty ≤ wtDe e := by unfold wtDe; omega
    omega
abbrev keyM (m : Mt) : Key := keyOf m.name.toList m.pkg
def errK : Key := keyOf errFn.name.toList 0

theorem addM_spec (out : List Mt) (m : Mt) : (addM out m = out ∧ keyM m ∈ out.map keyM) ∨ (addM out m = out ++ [m] ∧ keyM m ∉ out.map keyM) := by
  unfold addM findM
  cases hf : out.find? (fun x => sameNm x.name.toList x.pkg m.name.toList m.pkg) with
  | none =>
    right
    refine ⟨by simp, fun h => ?_⟩
    obtain ⟨a, ha, hk⟩ := List.mem_map.1 h
    have := List.find?_eq_none.1 hf a ha
    exact this (sameNm_iff.2 hk)
  | some a =>
    left
    refine ⟨by simp, ?_⟩
    have h1 := List.find?_some hf
    have h2 := List.mem_of_find?_eq_some hf
    exact List.mem_map.2 ⟨a, h2, sameNm_iff.1 h1⟩

theorem merge_len (c : Int) : ∀ (i : Nat) (L : List (List Mt)) (A B : List Mt), A.length ≤ i → (B.map keyM).Nodup → ((i : Int) ≤ c → B = []) → (∀ (j : Nat) l, L[j]? = some l → ((i + j : Nat) : Int) < c → l.length ≤ 1) →
    ∃ A' B', mergeM c i L (A ++ B) = A' ++ B' ∧ A'.length ≤ i + L.length ∧ (B'.map keyM).Nodup
  | i, [], A, B, hA, hB, _, _ => ⟨A, B, rfl, by simpa using hA, hB⟩
  | i, l :: L, A, B, hA, hB, hc, hl => by
    have hl' : ∀ (j : Nat) l', L[j]? = some l' → ((i + 1 + j : Nat) : Int) < c → l'.length ≤ 1 := fun j l' h h' => hl (j + 1) l' (by simpa using h) (by rw [← Nat.add_assoc, Nat.add_right_comm]; exact h')
    simp only [mergeM]
    by_cases hi : (i : Int) < c
    · rw [if_pos hi]
      obtain rfl := hc (by omega)
      have h1 := hl 0 l rfl (by simpa using hi)
      obtain ⟨A', B', h2, h3, h4⟩ := merge_len c (i + 1) L (A ++ l) [] (by simp; omega) (by simp) (fun _ => rfl) hl'
      refine ⟨A', B', ?_, by simp; omega, h4⟩
      rw [← h2]; simp
    · rw [if_neg hi]
      have hf : ∀ (l B : List Mt), (B.map keyM).Nodup → ∃ B', l.foldl addM (A ++ B) = A ++ B' ∧ (B'.map keyM).Nodup := by
        intro l
        induction l with
        | nil => intro B hB; exact ⟨B, rfl, hB⟩
        | cons m l ih =>
          intro B hB
          simp only [List.foldl_cons]
          rcases addM_spec (A ++ B) m with ⟨h1, _⟩ | ⟨h1, h2⟩
          · rw [h1]; exact ih B hB
          · rw [h1, List.append_assoc]
            refine ih (B ++ [m]) ?_
            rw [List.map_append, List.nodup_append]
            refine ⟨hB, by simp, fun a ha b hb => ?_⟩
            simp at hb
            subst hb
            rintro rfl
            exact h2 (by rw [List.map_append]; exact List.mem_append_right _ ha)
      obtain ⟨B1, h1, h2⟩ := hf l B hB
      rw [h1]
      obtain ⟨A', B', h3, h4, h5⟩ := merge_len c (i + 1) L A B1 (by omega) h2 (fun h => by omega) hl'
      exact ⟨A', B', h3, by simp; omega, h5⟩

/-- the underlying type's elements stem from the type's or a declaration's -/
theorem under_src {D : List De} (hD : ShapedD D) {i : Nat} {v : Bool} {t : Ty} (hi : i ≤ D.length) (hs : Shaped D i v t) :
    (∃ e ∈ D, underT D t = errN (norm e.ty)) ∨ underT D t = errN (norm t) := by
  rcases under_cases hD hi hs with ⟨_, _, h⟩ | ⟨j, e, _, _, _, he, _, h⟩
  · exact .inr h
  · exact .inl ⟨e, List.mem_of_getElem? he, h⟩
theorem src_cases (b : Ty) (h : (errN (norm b)).kind = 9) : errN (norm b) = b ∨ errN (norm b) = errT ∨ errN (norm b) = anyT := by
  rcases norm_cases b with ⟨h1, h2⟩ | ⟨h1, h2, _⟩ | ⟨_, _, h3⟩
  · rw [h2] at h ⊢; left; exact errN_kind_ne h1
  · unfold errN at h ⊢
    split at h
    · rename_i hc; rw [if_pos hc]; exact .inr (.inl rfl)
    · omega
  · rw [h3]; right; right; rfl

theorem IM_keys {D : List De} (hD : ShapedD D) (U : Key → Prop) (hU : ∀ e ∈ D, ∀ k ∈ ks e.ty, U k) (hE : U errK) {t : Ty} {ms : List Mt} (h : IM D t ms) :
    ∀ (i : Nat) (v : Bool), i ≤ D.length → Shaped D i v t → (∀ k ∈ ks t, U k) → ∀ m ∈ ms, U (keyM m) := by
  induction h with
  | no => intro i v _ _ _ m hm; cases hm
  | yes t L hk hL h1 h2 ih =>
    intro i v hi hs hk'
    have key : ∀ (j : Nat) (e : Ty), (underT D t).elems[j]? = some e → U (keyOf e.name.toList (underT D t).n) ∧ (¬ (j : Int) < (underT D t).count → ∃ i' v', i' ≤ D.length ∧ Shaped D i' v' e ∧ ∀ k ∈ ks e, U k) := by
      have go : ∀ (b : Ty), underT D t = errN (norm b) → (∃ i' v', i' ≤ D.length ∧ Shaped D i' v' b) → (∀ k ∈ ks b, U k) → ∀ (j : Nat) (e : Ty), (underT D t).elems[j]? = some e →
          U (keyOf e.name.toList (underT D t).n) ∧ (¬ (j : Int) < (underT D t).count → ∃ i' v', i' ≤ D.length ∧ Shaped D i' v' e ∧ ∀ k ∈ ks e, U k) := by
        intro b hb ⟨i', v', hi', hs'⟩ hkb j e he
        rw [hb] at he hk ⊢
        rcases src_cases b hk with h3 | h3 | h3
        · rw [h3] at he ⊢
          rw [ks_eq] at hkb
          have hm := ks_mem (n := b.n) (List.mem_of_getElem? he)
          exact ⟨hkb _ hm.1, fun _ => ⟨i', _, hi', hs'.el j e he, fun k hk => hkb k (hm.2 k hk)⟩⟩
        · rw [h3] at he ⊢
          match j with
          | 0 =>
            simp [errT, Ty.elems] at he
            subst he
            exact ⟨hE, fun h => by simp [errT, Ty.count] at h⟩
          | j + 1 => simp [errT, Ty.elems] at he
        · rw [h3] at he; simp [anyT, Ty.elems] at he
      rcases under_cases hD hi hs with ⟨_, _, h⟩ | ⟨j, e, _, hj, _, he, _, h⟩
      · exact go t h ⟨i, v, hi, hs⟩ hk'
      · exact go e.ty h ⟨j, true, by omega, hD j e he⟩ (hU e (List.mem_of_getElem? he))
    refine mem_merge _ _ _ _ (by simp) fun l hl m hm => ?_
    obtain ⟨j, hj⟩ := List.getElem?_of_mem hl
    have hlt : j < (underT D t).elems.length := by rw [← hL]; exact (List.getElem?_eq_some_iff.1 hj).1
    have he := List.getElem?_eq_getElem hlt
    by_cases hc : (j : Int) < (underT D t).count
    · rw [h1 j _ l he hj hc] at hm
      simp at hm
      subst hm
      exact (key j _ he).1
    · obtain ⟨i', v', h3, h4, h5⟩ := (key j _ he).2 hc
      exact ih j _ l he hj hc i' v' h3 h4 h5 m hm

theorem IM_len {D : List De} (hD : ShapedD D) {t : Ty} {ms : List Mt} (h : IM D t ms) {i : Nat} {v : Bool} (hi : i ≤ D.length) (hs : Shaped D i v t) : ms.length ≤ 2 * wt t + 2 * wtD D + 2 := by
  have hkeys := IM_keys hD (fun k => k ∈ errK :: (ks t ++ ksD D)) (fun e he k hk => by simp [ksD_mem he k hk]) (by simp) h i v hi hs (fun k hk => by simp [hk])
  have hu : (underT D t).kind = 9 → (underT D t).elems.length ≤ wt t + wtD D + 1 := fun h9 => by
    have fin : ∀ b : Ty, underT D t = errN (norm b) → b.elems.length ≤ wt t + wtD D → (underT D t).elems.length ≤ wt t + wtD D + 1 := fun b hb hl => by
      rw [hb] at h9 ⊢
      rcases src_cases b h9 with h3 | h3 | h3
      · rw [h3]; omega
      · rw [h3]; simp [errT, Ty.elems]
      · rw [h3]; simp [anyT, Ty.elems]
    rcases under_src hD hi hs with ⟨e, he, h1⟩ | h1
    · exact fin e.ty h1 (by have := wt_len e.ty; have := wtD_mem he; omega)
    · exact fin t h1 (by have := wt_len t; omega)
  cases h with
  | no => simp
  | yes _ L h9 hL h1 h2 =>
    obtain ⟨A, B, h3, h4, h5⟩ := merge_len (underT D t).count 0 L [] [] (by simp) (by simp) (fun _ => rfl) (fun j l hj hc => by
      have hlt : j < (underT D t).elems.length := by rw [← hL]; exact (List.getElem?_eq_some_iff.1 hj).1
      rw [h1 j _ l (List.getElem?_eq_getElem hlt) hj (by simpa using hc)]
      simp)
    simp only [List.append_nil] at h3
    rw [h3] at hkeys ⊢
    have h6 := sub_len (B.map keyM) (errK :: (ks t ++ ksD D)) h5 fun k hk => by
      obtain ⟨m, hm, rfl⟩ := List.mem_map.1 hk
      exact hkeys m (List.mem_append_right _ hm)
    have h7 := ks_len t
    have h8 := ksD_len D
    have h10 := hu h9
    simp only [List.length_map, List.length_cons, List.length_append] at h6 ⊢
    omega

/-- declarations, and a type, that may be walked -/
structure OkD (D : List De) : Prop where
  sh : ShapedD D
  wt : wtD D ≤ 16777216
  len : D.length ≤ 16777216
structure Good (D : List De) (t : Ty) : Prop where
  sh : ∃ i v, i ≤ D.length ∧ Shaped D i v t
  wt : wt t ≤ 16777216

theorem Good.el {D : List De} {t : Ty} (h : Good D t) {i : Nat} {e : Ty} (he : t.elems[i]? = some e) : Good D e := by
  obtain ⟨k, v, hk, hs⟩ := h.sh
  exact ⟨⟨k, _, hk, hs.el i e he⟩, by have := wt_el he; have := h.wt; omega⟩
theorem Good.of_D {D : List De} (hD : OkD D) {i : Nat} {e : De} (he : D[i]? = some e) : Good D e.ty :=
  ⟨⟨i, true, Nat.le_of_lt (List.getElem?_eq_some_iff.1 he).1, hD.sh i e he⟩, by have := wtD_mem (List.mem_of_getElem? he); have := hD.wt; omega⟩
theorem shaped_any (D : List De) (i : Nat) (v : Bool) : Shaped D i v anyT := by
  refine .mk v _ ⟨by decide, by decide, by decide, fun _ => by decide, fun _ => ?_, fun h => by simp [anyT, Ty.kind] at h, fun _ => by decide, fun _ => by decide, fun h => by simp [anyT, Ty.kind] at h, fun _ j e he => by simp [anyT, Ty.elems] at he⟩ fun j e he => by simp [anyT, Ty.elems] at he
  simp [limitN, anyT, Ty.kind, Ty.n]
theorem shaped_setN {D : List De} {i : Nat} {v : Bool} {t : Ty} (h : Shaped D i v t) (hk : t.kind = 0) {m : Int} (h0 : 0 ≤ m) (h1 : m < 22) : Shaped D i v (t.setN m) := by
  have hs := h.shape
  obtain ⟨k, n, c, vr, es, nm, tg, em⟩ := t
  simp only [Ty.kind] at hk
  subst hk
  refine .mk v _ ⟨by simp [Ty.setN, Ty.kind], by simp [Ty.setN, Ty.kind], hs.len, fun _ => by simpa [Ty.setN, Ty.n] using h0, fun _ => by simpa [Ty.setN, Ty.n, limitN, Ty.kind] using h1, fun h => by simp [Ty.setN, Ty.kind] at h,
    fun h => by simp [Ty.setN, Ty.kind] at h, fun h => by simp [Ty.setN, Ty.kind] at h, fun h => by simp [Ty.setN, Ty.kind] at h, fun h => by simp [Ty.setN, Ty.kind] at h⟩ fun j e he => ?_
  have := hs.len (by simp [elemsN, Ty.kind])
  simp [elemsN, Ty.kind] at this
  have h2 : es = [] := by simpa [Ty.elems] using this
  subst h2
  simp [Ty.setN, Ty.elems] at he
theorem norm_eq (t : Ty) : norm t = t ∨ (t.kind = 0 ∧ (norm t = t.setN 7 ∨ norm t = t.setN 4)) ∨ norm t = anyT := by
  unfold norm
  split
  · rename_i h
    split
    · exact .inr (.inl ⟨h, .inl rfl⟩)
    · split
      · exact .inr (.inl ⟨h, .inr rfl⟩)
      · split
        · exact .inr (.inr rfl)
        · exact .inl rfl
  · exact .inl rfl
theorem Good.norm {D : List De} {t : Ty} (h : Good D t) : Good D (norm t) := by
  rcases norm_eq t with h1 | ⟨h0, h1 | h1⟩ | h1
  · rw [h1]; exact h
  · rw [h1]
    obtain ⟨k, v, hk, hs⟩ := h.sh
    exact ⟨⟨k, v, hk, shaped_setN hs h0 (by decide) (by decide)⟩, by have := h.wt; rw [wt_eq] at this ⊢; cases t; simpa [Ty.setN, Ty.elems, Ty.name, Ty.tag] using this⟩
  · rw [h1]
    obtain ⟨k, v, hk, hs⟩ := h.sh
    exact ⟨⟨k, v, hk, shaped_setN hs h0 (by decide) (by decide)⟩, by have := h.wt; rw [wt_eq] at this ⊢; cases t; simpa [Ty.setN, Ty.elems, Ty.name, Ty.tag] using this⟩
  · rw [h1]
    exact ⟨⟨0, false, Nat.zero_le _, shaped_any D 0 false⟩, by decide⟩
theorem Good.named {D : List De} {t : Ty} (h : Good D t) (hk : t.kind = 1) : 0 ≤ t.n ∧ t.n < D.length := by
  obtain ⟨k, v, _, hs⟩ := h.sh
  refine ⟨hs.shape.n0 (by rw [hk]; simp [limitN]; try omega), ?_⟩
  have := hs.shape.n1 (by rw [hk]; simp [limitN])
  rw [hk] at this
  simpa [limitN] using this
theorem Good.decl {D : List De} {t : Ty} (h : Good D t) (hk : t.kind = 1) : ∃ e, D[t.n.toNat]? = some e := by
  have := h.named hk
  have hlt : t.n.toNat < D.length := by omega
  exact ⟨_, List.getElem?_eq_getElem hlt⟩
theorem Good.unal1 {D : List De} (hD : OkD D) {t : Ty} (h : Good D t) : Good D (unal1 D t) := by
  cases ha : isAl D t with
  | false => rw [unal1_id ha]; exact h
  | true =>
    obtain ⟨e, _, he, _, hu⟩ := unal1_al ha
    rw [hu]; exact Good.of_D hD he
theorem Good.rep_unal {D : List De} (hD : OkD D) {t : Ty} (h : Good D t) : ∀ k, Good D (rep (_root_.Go.Proofs.YtpiegpegjbmlkaaGreatDoor.unal1 D) k t)
  | 0 => h
  | k + 1 => (Good.rep_unal hD h k).unal1 hD
theorem Good.unalias {D : List De} (hD : OkD D) {t : Ty} (h : Good D t) : Good D (unaliasT D t) := (h.rep_unal hD _).norm
theorem Good.und1 {D : List De} (hD : OkD D) {t : Ty} (h : Good D t) : Good D (und1 D t) := by
  by_cases hk : t.kind = 1
  · obtain ⟨e, he⟩ := h.decl hk
    rw [und1_nm hk he]
    exact (Good.of_D hD he).unalias hD
  · rw [und1_lit hk]; exact h
theorem Good.rep_und {D : List De} (hD : OkD D) {t : Ty} (h : Good D t) : ∀ k, Good D (rep (_root_.Go.Proofs.YtpiegpegjbmlkaaGreatDoor.und1 D) k t)
  | 0 => h
  | k + 1 => (Good.rep_und hD h k).und1 hD
theorem Good.exp {D : List De} (hD : OkD D) {t : Ty} (h : Good D t) : ∃ x, Exp D t x := by
  obtain ⟨i, v, hi, hs⟩ := h.sh
  exact (exists_exp hD.sh i hi v t hs).1

theorem shaped_err (D : List De) : Shaped D 0 false errT := by
  have hs : Shaped D 0 false vstr := by
    refine .mk _ _ ⟨by decide, by decide, by decide, fun _ => by decide, fun _ => by simp [limitN, vstr, Ty.kind, Ty.n], fun h => by simp [vstr, Ty.kind] at h, fun h => by simp [vstr, Ty.kind] at h, fun h => by simp [vstr, Ty.kind] at h, fun h => by simp [vstr, Ty.kind] at h, fun h => by simp [vstr, Ty.kind] at h⟩ fun j e he => by simp [vstr, Ty.elems] at he
  have hf : Shaped D 0 false errFn := by
    refine .mk _ _ ⟨by decide, by decide, by decide, fun h => by simp [limitN, errFn, Ty.kind] at h, fun h => by simp [limitN, errFn, Ty.kind] at h, fun h => by simp [errFn, Ty.kind] at h, fun _ => by decide, fun _ => by decide, fun _ h => by simp [errFn, Ty.vr] at h, fun h => by simp [errFn, Ty.kind] at h⟩ fun j e he => ?_
    match j with
    | 0 => simp [errFn, Ty.elems] at he; subst he; exact hs
    | j + 1 => simp [errFn, Ty.elems] at he
  refine .mk _ _ ⟨by decide, by decide, by decide, fun _ => by decide, fun _ => by simp [limitN, errT, Ty.kind, Ty.n], fun h => by simp [errT, Ty.kind] at h, fun _ => by decide, fun _ => by decide, fun h => by simp [errT, Ty.kind] at h, fun _ j e he hj => ?_⟩ fun j e he => ?_
  · match j with
    | 0 => simp [errT, Ty.elems] at he; subst he; rfl
    | j + 1 => simp [errT, Ty.elems] at he
  · match j with
    | 0 => simp [errT, Ty.elems] at he; subst he; exact hf
    | j + 1 => simp [errT, Ty.elems] at he
theorem Good.under {D : List De} (hD : OkD D) {t : Ty} (h : Good D t) : Good D (underT D t) := by
  have h1 := (h.unalias hD).rep_und hD D.length
  show Good D (errN _)
  unfold errN
  split
  · exact ⟨⟨0, false, Nat.zero_le _, shaped_err D⟩, by decide⟩
  · exact h1
end Go.Proofs.YtpiegpegjbmlkaaGreatDoor
namespace Go.Kd

/-- the cells from an address on -/
def Cells (w : World) (b o : Nat) (cs : List Value) : Prop := ∀ (j : Nat) v, cs[j]? = some v → w.cell? ⟨b, o + j, none⟩ = some v
theorem Cells.ext {w w' : World} (x : Ext w w') {b o : Nat} {cs : List Value} (h : Cells w b o cs) : Cells w' b o cs := fun j v hv => x.cell (h j v hv)
theorem Cells.has {w : World} {b : Nat} {cs : List Value} {t : TypeId} {fz : Nat × Nat} (h : Has w b (.cells cs.toArray t fz)) : Cells w b 0 cs := fun j v hv => by
  rw [Nat.zero_add]; exact cell_of h (by simpa using hv)
theorem Cells.part {w : World} {b o : Nat} {cs : List Value} (h : Cells w b o cs) {k : Nat} {l : List Value} (hl : ∀ (j : Nat) v, l[j]? = some v → cs[k + j]? = some v) : Cells w b (o + k) l := fun j v hv => by
  rw [Nat.add_assoc]; exact h _ v (hl j v hv)
theorem Cells.lt {w : World} {b o : Nat} {cs : List Value} (h : Cells w b o cs) {v : Value} (hv : cs[0]? = some v) : b < w.heap.size := by
  have hc := h 0 v hv
  unfold World.cell? at hc
  cases hh : w.heap[b]? with
  | none => simp [hh] at hc
  | some o => exact (Array.getElem?_eq_some_iff.1 hh).1

/-- a slice's elements, of sz cells each, in blocks that are p -/
def SlC (w : World) (p : Nat → Prop) (sz : Nat) (a : Option Addr) (n : Nat) (f : Nat → List Value) : Prop := ∀ i, i < n → ∃ b o, a = some ⟨b, o, none⟩ ∧ p b ∧ Cells w b (o + i * sz) (f i)
theorem SlC.ext {w w' : World} (x : Ext w w') {p : Nat → Prop} {sz n : Nat} {a : Option Addr} {f : Nat → List Value} (h : SlC w p sz a n f) : SlC w' p sz a n f := fun i hi => by
  obtain ⟨b, o, h1, h0, h2⟩ := h i hi
  exact ⟨b, o, h1, h0, h2.ext x⟩
theorem SlC.mono {w : World} {p q : Nat → Prop} (hq : ∀ b, p b → q b) {sz n : Nat} {a : Option Addr} {f : Nat → List Value} (h : SlC w p sz a n f) : SlC w q sz a n f := fun i hi => by
  obtain ⟨b, o, h1, h0, h2⟩ := h i hi
  exact ⟨b, o, h1, hq b h0, h2⟩
theorem SlC.upd {w w' : World} {c : Nat} {ob : Obj} (u : Upd w c ob w') {p : Nat → Prop} (hc : ¬ p c) {sz n : Nat} {a : Option Addr} {f : Nat → List Value} (h : SlC w p sz a n f) : SlC w' p sz a n f := fun i hi => by
  obtain ⟨b, o, h1, h0, h2⟩ := h i hi
  refine ⟨b, o, h1, h0, fun j v hv => ?_⟩
  have := h2 j v hv
  unfold World.cell? at this ⊢
  rw [u.oth b (fun e => hc (e ▸ h0))]
  exact this

section
variable {P : Program} {e : Env} {w : World} {d : Option Tmp} {ty t t2 : TypeId} {pos : String} {aft : Array Edge} {g : Option (Nat × Bool)} {x y : Operand}
theorem yld_load_cells {b o : Nat} {l : List Value} [h : Agt P t l.length] (hx : ev e x = some (.pointer (some ⟨b, o, none⟩))) (hc : Cells w b o l) :
    Yld P e ⟨d, .load t x, ty, pos, aft, g⟩ (.agg l.toArray) w := ⟨fun ρ hρ w' hw => by
  obtain ⟨D, i, h1, h2, h3, h4⟩ := h.at_
  have := run_loadVar_mid (P := P) w' b o t l D (hc.ext hw) h1 (by cases D <;> simp_all) (by simp [h3, h4])
  simp [execOp, hρ x _ hx, Instr.loadAt, Instr.sureAddr, this]⟩
/-- one cell of several -/
theorem yld_load_cellsI {b o i : Nat} {l : List Value} {v : Value} [h : Scl P t] (hx : ev e x = some (.pointer (some ⟨b, o + i, none⟩))) (hc : Cells w b o l) (hv : getO l i = some v) :
    Yld P e ⟨d, .load t x, ty, pos, aft, g⟩ v w := yld_load_c hx (hc i v (by rw [← getO_eq]; exact hv))
end
end Go.Kd
namespace Go.Proofs.YtpiegpegjbmlkaaGreatDoor
open Go Go.Kd

/-- a value of impl.Type -/
abbrev tyl (k n c : Int) (vr : Bool) (sl : Value) (nm tg : ByteArray) (em : Bool) : List Value :=
  [.int .i64 k, .int .i64 n, .int .i64 c, .bool vr, sl, .string nm, .string tg, .bool em]
abbrev tyv (k n c : Int) (vr : Bool) (sl : Value) (nm tg : ByteArray) (em : Bool) : Value := .agg (tyl k n c vr sl nm tg em).toArray

/-- the cells of a type as data; what lies behind them is in memory -/
inductive TyV (w : World) (p : Nat → Prop) : List Value → Ty → Prop
  | mk (k n c : Int) (vr : Bool) (es : List Ty) (nm tg : ByteArray) (em : Bool) (a : Option Addr) (cp : Nat) (f : Nat → List Value) :
      (∀ (i : Nat) e, es[i]? = some e → TyV w p (f i) e) → SlC w p 8 a es.length f → es.length ≤ cp → TyV w p (tyl k n c vr (.slice a es.length cp) nm tg em) (.mk k n c vr es nm tg em)

theorem TyV.ext {w w' : World} (x : Ext w w') {p : Nat → Prop} {cs : List Value} {t : Ty} (h : TyV w p cs t) : TyV w' p cs t := by
  induction h with
  | mk k n c vr es nm tg em a cp f _ hs hc ih => exact .mk k n c vr es nm tg em a cp f ih (hs.ext x) hc
theorem TyV.mono {w : World} {p q : Nat → Prop} (hq : ∀ b, p b → q b) {cs : List Value} {t : Ty} (h : TyV w p cs t) : TyV w q cs t := by
  induction h with
  | mk k n c vr es nm tg em a cp f _ hs hc ih => exact .mk k n c vr es nm tg em a cp f ih (hs.mono hq) hc
theorem TyV.upd {w w' : World} {b : Nat} {ob : Obj} (u : Upd w b ob w') {p : Nat → Prop} (hb : ¬ p b) {cs : List Value} {t : Ty} (h : TyV w p cs t) : TyV w' p cs t := by
  induction h with
  | mk k n c vr es nm tg em a cp f _ hs hc ih => exact .mk k n c vr es nm tg em a cp f ih (hs.upd u hb) hc

/-- a slice of types -/
structure TysV (w : World) (p : Nat → Prop) (a : Option Addr) (cp : Nat) (l : List Ty) : Prop where
  cap : l.length ≤ cp
  el : ∃ f, SlC w p 8 a l.length f ∧ ∀ (i : Nat) e, l[i]? = some e → TyV w p (f i) e
theorem TysV.ext {w w' : World} (x : Ext w w') {p : Nat → Prop} {a : Option Addr} {cp : Nat} {l : List Ty} (h : TysV w p a cp l) : TysV w' p a cp l := by
  obtain ⟨h0, f, h1, h2⟩ := h
  exact ⟨h0, f, h1.ext x, fun i e he => (h2 i e he).ext x⟩
theorem TysV.mono {w : World} {p q : Nat → Prop} (hq : ∀ b, p b → q b) {a : Option Addr} {cp : Nat} {l : List Ty} (h : TysV w p a cp l) : TysV w q a cp l := by
  obtain ⟨h0, f, h1, h2⟩ := h
  exact ⟨h0, f, h1.mono hq, fun i e he => (h2 i e he).mono hq⟩
theorem TysV.upd {w w' : World} {b : Nat} {ob : Obj} (u : Upd w b ob w') {p : Nat → Prop} (hb : ¬ p b) {a : Option Addr} {cp : Nat} {l : List Ty} (h : TysV w p a cp l) : TysV w' p a cp l := by
  obtain ⟨h0, f, h1, h2⟩ := h
  exact ⟨h0, f, h1.upd u hb, fun i e he => (h2 i e he).upd u hb⟩
theorem TysV.nil {w : World} {p : Nat → Prop} {a : Option Addr} {cp : Nat} : TysV w p a cp [] :=
  ⟨Nat.zero_le _, fun _ => [], fun i h => by simp at h, fun i e h => by simp at h⟩
/-- blocks that came in between two worlds -/
def btw (w w' : World) (p : Nat → Prop) (b : Nat) : Prop := p b ∨ (w.heap.size ≤ b ∧ b < w'.heap.size)
/-- element i: its cells -/
theorem TysV.at_ {p : Nat → Prop} {w : World} {a : Option Addr} {cp : Nat} {l : List Ty} (h : TysV w p a cp l) {i : Nat} {e : Ty} (he : l[i]? = some e) : ∃ b o cs, a = some ⟨b, o, none⟩ ∧ p b ∧ Cells w b (o + i * 8) cs ∧ TyV w p cs e := by
  obtain ⟨_, f, h1, h2⟩ := h
  have hlt : i < l.length := (List.getElem?_eq_some_iff.1 he).1
  obtain ⟨b, o, h3, h0, h4⟩ := h1 i hlt
  exact ⟨b, o, f i, h3, h0, h4, h2 i e he⟩
/-- what it looks like -/
theorem TyV.tys {p : Nat → Prop} {w : World} {cs : List Value} {t : Ty} (h : TyV w p cs t) : ∃ a cp, cs = tyl t.kind t.n t.count t.vr (.slice a t.elems.length cp) t.name t.tag t.emb ∧ TysV w p a cp t.elems := by
  cases h with
  | mk k n c vr es nm tg em a cp f h1 h2 h3 => exact ⟨a, cp, rfl, h3, f, h2, h1⟩
theorem TyV.of_tys {p : Nat → Prop} {w : World} {t : Ty} {a : Option Addr} {cp : Nat} (h : TysV w p a cp t.elems) : TyV w p (tyl t.kind t.n t.count t.vr (.slice a t.elems.length cp) t.name t.tag t.emb) t := by
  obtain ⟨h0, f, h1, h2⟩ := h
  obtain ⟨k, n, c, vr, es, nm, tg, em⟩ := t
  exact .mk k n c vr es nm tg em a cp f h2 h1 h0
theorem TyV.len {p : Nat → Prop} {w : World} {cs : List Value} {t : Ty} (h : TyV w p cs t) : cs.length = 8 := by
  obtain ⟨a, cp, h, _⟩ := h.tys; rw [h]; rfl

/-- the cells of a method's declaration -/
def MeV (w : World) (p : Nat → Prop) (cs : List Value) (m : Me) : Prop := ∃ ts, cs = .bool m.ptr :: ts ∧ TyV w p ts m.fn
/-- the cells of a declaration -/
def DeV (w : World) (p : Nat → Prop) (cs : List Value) (e : De) : Prop := ∃ ts a cp f, cs = .string e.name :: .int .i64 e.pkg :: .bool e.al :: (ts ++ [.slice a e.ms.length cp]) ∧ TyV w p ts e.ty ∧ SlC w p 9 a e.ms.length f ∧ ∀ (i : Nat) m, e.ms[i]? = some m → MeV w p (f i) m
def DsV (w : World) (p : Nat → Prop) (v : Value) (D : List De) : Prop := ∃ a cp f, v = .slice a D.length cp ∧ SlC w p 12 a D.length f ∧ ∀ (i : Nat) e, D[i]? = some e → DeV w p (f i) e
theorem MeV.ext {w w' : World} (x : Ext w w') {p : Nat → Prop} {cs : List Value} {m : Me} (h : MeV w p cs m) : MeV w' p cs m := by
  obtain ⟨ts, h1, h2⟩ := h
  exact ⟨ts, h1, h2.ext x⟩
theorem DeV.ext {w w' : World} (x : Ext w w') {p : Nat → Prop} {cs : List Value} {e : De} (h : DeV w p cs e) : DeV w' p cs e := by
  obtain ⟨ts, a, cp, f, h1, h2, h3, h4⟩ := h
  exact ⟨ts, a, cp, f, h1, h2.ext x, h3.ext x, fun i m hm => (h4 i m hm).ext x⟩
theorem DsV.ext {w w' : World} (x : Ext w w') {p : Nat → Prop} {v : Value} {D : List De} (h : DsV w p v D) : DsV w' p v D := by
  obtain ⟨a, cp, f, h1, h2, h3⟩ := h
  exact ⟨a, cp, f, h1, h2.ext x, fun i e he => (h3 i e he).ext x⟩
theorem DsV.shape {p : Nat → Prop} {w : World} {v : Value} {D : List De} (h : DsV w p v D) : ∃ a cp, v = .slice a D.length cp := by
  obtain ⟨a, cp, f, h1, h2, h3⟩ := h
  exact ⟨a, cp, h1⟩
theorem DsV.at_ {p : Nat → Prop} {w : World} {a : Option Addr} {n cp : Nat} {D : List De} (h : DsV w p (.slice a n cp) D) {i : Nat} {e : De} (he : D[i]? = some e) : ∃ b o cs, a = some ⟨b, o, none⟩ ∧ p b ∧ Cells w b (o + i * 12) cs ∧ DeV w p cs e := by
  obtain ⟨a', cp', f, h0, h1, h2⟩ := h
  cases h0
  have hlt : i < D.length := (List.getElem?_eq_some_iff.1 he).1
  obtain ⟨b, o, h3, h0, h4⟩ := h1 i hlt
  exact ⟨b, o, f i, h3, h0, h4, h2 i e he⟩
end Go.Proofs.YtpiegpegjbmlkaaGreatDoor
namespace Go.Proofs.YtpiegpegjbmlkaaGreatDoor
open Go Go.Kd
/-- a declaration's cells, in full -/
abbrev del (e : De) (a : Option Addr) (cp : Nat) (a' : Option Addr) (cp' : Nat) : List Value :=
  [.string e.name, .int .i64 e.pkg, .bool e.al, .int .i64 e.ty.kind, .int .i64 e.ty.n, .int .i64 e.ty.count, .bool e.ty.vr, .slice a e.ty.elems.length cp, .string e.ty.name, .string e.ty.tag, .bool e.ty.emb, .slice a' e.ms.length cp']
abbrev tyc (t : Ty) (a : Option Addr) (cp : Nat) : List Value := tyl t.kind t.n t.count t.vr (.slice a t.elems.length cp) t.name t.tag t.emb
theorem DeV.open {p : Nat → Prop} {w : World} {cs : List Value} {e : De} (h : DeV w p cs e) : ∃ a cp a' cp' f, cs = del e a cp a' cp' ∧ TysV w p a cp e.ty.elems ∧ SlC w p 9 a' e.ms.length f ∧ ∀ (i : Nat) m, e.ms[i]? = some m → MeV w p (f i) m := by
  obtain ⟨ts, a', cp', f, h1, h2, h3, h4⟩ := h
  obtain ⟨a, cp, rfl, h5⟩ := h2.tys
  exact ⟨a, cp, a', cp', f, h1, h5, h3, h4⟩
theorem Cells.ty_of {w : World} {b o : Nat} {e : De} {a : Option Addr} {cp : Nat} {a' : Option Addr} {cp' : Nat} (h : Cells w b o (del e a cp a' cp')) : Cells w b (o + 3) (tyc e.ty a cp) := by
  refine h.part fun j v hv => ?_
  have hj : j < 8 := (List.getElem?_eq_some_iff.1 hv).1
  rw [← List.getElem?_drop]
  show (tyc e.ty a cp ++ [_])[j]? = some v
  rw [List.getElem?_append_left (by simpa using hj)]
  exact hv
theorem Cells.me_of {w : World} {b o : Nat} {p : Bool} {ts : List Value} (h : Cells w b o (.bool p :: ts)) : Cells w b (o + 1) ts :=
  h.part fun j v hv => by rw [Nat.add_comm]; simpa using hv
theorem DsV.next {p : Nat → Prop} {w : World} {a : Option Addr} {n cp : Nat} {D : List De} (h : DsV w p (.slice a n cp) D) {i : Nat} {e : De} (he : D[i]? = some e) : ∃ b o a1 c1 a2 c2 f, a = some ⟨b, o, none⟩ ∧ p b ∧ Cells w b (o + i * 12) (del e a1 c1 a2 c2) ∧
    TysV w p a1 c1 e.ty.elems ∧ SlC w p 9 a2 e.ms.length f ∧ ∀ (i : Nat) m, e.ms[i]? = some m → MeV w p (f i) m := by
  obtain ⟨b, o, cs, h1, h0, h2, h3⟩ := h.at_ he
  obtain ⟨a1, c1, a2, c2, f, rfl, h4⟩ := h3.open
  exact ⟨b, o, a1, c1, a2, c2, f, h1, h0, h2, h4⟩
theorem TysV.next {p : Nat → Prop} {w : World} {a : Option Addr} {cp : Nat} {l : List Ty} (h : TysV w p a cp l) {i : Nat} {e : Ty} (he : l[i]? = some e) : ∃ b o a1 c1, a = some ⟨b, o, none⟩ ∧ p b ∧ Cells w b (o + i * 8) (tyc e a1 c1) ∧ TysV w p a1 c1 e.elems := by
  obtain ⟨b, o, cs, h1, h0, h2, h3⟩ := h.at_ he
  obtain ⟨a1, c1, rfl, h4⟩ := h3.tys
  exact ⟨b, o, a1, c1, h1, h0, h2, h4⟩
theorem DsV.mono {w : World} {p q : Nat → Prop} (hq : ∀ b, p b → q b) {v : Value} {D : List De} (h : DsV w p v D) : DsV w q v D := by
  obtain ⟨a', cp', f, g1, g2, g3⟩ := h
  exact ⟨a', cp', f, g1, g2.mono hq, fun i e he => by
    obtain ⟨ts, a3, c3, f3, k1, k2, k3, k4⟩ := g3 i e he
    exact ⟨ts, a3, c3, f3, k1, k2.mono hq, k3.mono hq, fun i m hm => by
      obtain ⟨ts', k5, k6⟩ := k4 i m hm
      exact ⟨ts', k5, k6.mono hq⟩⟩⟩
end Go.Proofs.YtpiegpegjbmlkaaGreatDoor
namespace Go.Kd

/-- elements of at most 4096 bytes -/
class Byt (P : Program) (t : TypeId) : Prop where
  at_ : ∃ i, P.info? t = some i ∧ i.bytes ≤ 4096
def bytB (P : Program) (t : Nat) : Bool := match P.info? t with
  | some i => Nat.ble i.bytes 4096
  | none => false
theorem byt_of {P : Program} {t : Nat} (h : bytB P t = true) : Byt P t := by
  unfold bytB at h
  split at h <;> try (cases h; done)
  rename_i i h1
  exact ⟨i, h1, Nat.le_of_ble_eq_true h⟩

def fldB (P : Program) (t f : Nat) : Option Nat :=
  match P.underlying t with
  | some (.struct fs) => match fs[f]? with
    | some fd => match P.info? fd.type with
      | some i => if i.size = 0 then none else some fd.offset
      | none => none
    | none => none
  | _ => none
theorem fld_of {P : Program} {t f off : Nat} (h : fldB P t f = some off) : Fld P t f off := by
  unfold fldB at h
  split at h <;> try (cases h; done)
  rename_i fs h1
  split at h <;> try (cases h; done)
  rename_i fd h2
  split at h <;> try (cases h; done)
  rename_i i h3
  split at h <;> try (cases h; done)
  rename_i h4
  exact ⟨fs, fd, i, h1, h2, Option.some.inj h, h3, h4⟩

def rowT : TypeDesc → Bool
  | .struct _ => true
  | .array _ _ => true
  | _ => false
def sclB (P : Program) (t : Nat) : Bool :=
  match P.underlying t with
  | some d => match P.info? t with
    | some i => !rowT d && i.size == 1
    | none => false
  | none => false
theorem scl_of {P : Program} {t : Nat} (h : sclB P t = true) : Scl P t := by
  unfold sclB at h
  split at h <;> try (cases h; done)
  rename_i d h1
  split at h <;> try (cases h; done)
  rename_i i h2
  simp only [Bool.and_eq_true, Bool.not_eq_true', beq_iff_eq] at h
  exact ⟨d, i, h1, by cases d <;> simp_all [rowT], h2, h.2⟩
def agtB (P : Program) (t : Nat) : Option Nat :=
  match P.underlying t with
  | some d => match P.info? t with
    | some i => if rowT d then some i.size else none
    | none => none
  | none => none
theorem agt_of {P : Program} {t n : Nat} (h : agtB P t = some n) : Agt P t n := by
  unfold agtB at h
  split at h <;> try (cases h; done)
  rename_i d h1
  split at h <;> try (cases h; done)
  rename_i i h2
  split at h <;> try (cases h; done)
  rename_i h3
  exact ⟨d, i, h1, by cases d <;> simp_all [rowT], h2, Option.some.inj h⟩
def funB (P : Program) (k : Nat) : Bool :=
  match P.funcs[k]? with
  | some fn => !(fn.name == "runtime.NumGoroutine") && !fn.body.isNone
  | none => false
theorem fun_of {P : Program} {k : Nat} (h : funB P k = true) : Fun P k := by
  unfold funB at h
  split at h <;> try (cases h; done)
  rename_i fn h1
  simp only [Bool.and_eq_true, Bool.not_eq_true'] at h
  exact ⟨fn, h1, h.1, h.2⟩
def mthB (P : Program) (t : Nat) (name : String) : Option Nat :=
  match P.underlying t with
  | some (.pointer _) => match P.info? t with
    | some i => match i.methods.find? (·.name == name) with
      | some m => if m.path.isEmpty then (match m.func with
        | some (k, true) => some k
        | _ => none) else none
      | none => none
    | none => none
  | _ => none
theorem mth_of {P : Program} {t k : Nat} {name : String} (h : mthB P t name = some k) : Mth P t name k := by
  unfold mthB at h
  split at h <;> try (cases h; done)
  rename_i el h1
  split at h <;> try (cases h; done)
  rename_i i h2
  split at h <;> try (cases h; done)
  rename_i m h3
  split at h <;> try (cases h; done)
  rename_i h4
  split at h <;> try (cases h; done)
  rename_i k' h5
  cases h
  exact ⟨⟨el, h1⟩, i, m, h2, h3, by simpa using h4, h5⟩
def infB (P : Program) (t : Nat) : Option Nat := (P.info? t).map (·.size)
theorem inf_of {P : Program} {t n : Nat} (h : infB P t = some n) : Inf P t n := by
  unfold infB at h
  cases hi : P.info? t with
  | none => simp [hi] at h
  | some i => exact ⟨i, hi, by simpa [hi] using h⟩
def zvB (P : Program) (t : Nat) : Option Value := (P.info? t).bind (·.zero)
theorem zv_of {P : Program} {t : Nat} {z : Value} (h : zvB P t = some z) : Zv P t z := by
  unfold zvB at h
  cases hi : P.info? t with
  | none => simp [hi] at h
  | some i => exact ⟨i, hi, by simpa [hi] using h⟩
theorem zro_of {P : Program} {t : Nat} {v : Value} {z : List Value} (h : zvB P t = some v) (hv : v.cells = z.toArray) : Zro P t z := by
  obtain ⟨i, h1, h2⟩ := (zv_of h).at_
  exact ⟨i, v, h1, h2, hv⟩
def plcB (P : Program) (t : Nat) : Option (List (Nat × Nat)) :=
  match P.underlying t with
  | some (.struct fs) => fs.toList.mapM (fun f => (P.info? f.type).map fun i => (f.offset, i.size))
  | _ => none
theorem plc_of {P : Program} {t : Nat} {pl : List (Nat × Nat)} (h : plcB P t = some pl) : Plc P t pl := by
  unfold plcB at h
  split at h <;> try (cases h; done)
  rename_i fs h1
  exact ⟨fs, h1, h⟩
def ptrB (P : Program) (t : Nat) : Bool :=
  match P.underlying t with
  | some (.pointer el) => match P.info? el with
    | some i => !(i.size == 0)
    | none => false
  | _ => false
theorem ptr_of {P : Program} {t : Nat} (h : ptrB P t = true) : PtrT P t := by
  unfold ptrB at h
  split at h <;> try (cases h; done)
  rename_i el h1
  split at h <;> try (cases h; done)
  rename_i i h2
  exact ⟨el, i, h1, h2, by simpa using h⟩
def cmpB (P : Program) (t : Nat) : Bool := match P.info? t with
  | some i => i.comparable
  | none => false
theorem cmp_of {P : Program} {t : Nat} (h : cmpB P t = true) : CmpT P t := by
  unfold cmpB at h
  split at h <;> try (cases h; done)
  rename_i i h1
  exact ⟨i, h1, h⟩
end Go.Kd
namespace Go.Kd
variable {P : Program} {e : Env} {w : World} {d : Option Tmp} {ty t t2 : TypeId} {pos : String} {aft : Array Edge} {g : Option (Nat × Bool)} {x y z : Operand}

theorem yld_indexAddrN {el : TypeId} {b o n c : Nat} {k : IntKind} {i : Nat} {sz : Nat} [h : Und P t (.slice el)] [hi : Inf P el sz] (hx : ev e x = some (.slice (some ⟨b, o, none⟩) n c)) (hy : ev e y = some (.int k (i : Int)))
    (h1 : i < n) : Yld P e ⟨d, .indexAddr t x y, ty, pos, aft, g⟩ (.pointer (some ⟨b, o + i * sz, none⟩)) w :=
  yld_indexAddr hx hy (by omega) (by omega)

/-! ### Slicing -/
theorem yld_slice_hi {el : TypeId} {a : Option Addr} {n cp : Nat} {c : Int} {k : IntKind} {sz : Nat} [h : Und P t (.slice el)] [hi : Inf P el sz] (hx : ev e x = some (.slice a n cp)) (hy : ev e y = some (.int k c)) (h0 : 0 ≤ c) (h1 : c ≤ cp) :
    Yld P e ⟨d, .slice t x none (some y) none, ty, pos, aft, g⟩ (.slice a c.toNat cp) w := ⟨fun ρ hρ w' _ => by
  obtain ⟨j, h2, h3⟩ := hi.at_
  have ha : (a.map fun a => a.add 0) = a := by cases a <;> rfl
  simp [execOp, hρ x _ hx, hρ y _ hy, Instr.sliceAt, Instr.slice, Instr.sliceBounds, Instr.sliceBound, asIntOf, run_underlying h.at_, h0, h1, sizeOf, typeInfo, h2, ha]⟩
/-- the address behind c elements -/
def past (a : Option Addr) (c cp sz : Nat) : Option Addr := if cp = c then a else a.map (·.add (c * sz))
theorem yld_slice_lo {el : TypeId} {a : Option Addr} {n cp : Nat} {c : Int} {k : IntKind} {sz : Nat} [h : Und P t (.slice el)] [hi : Inf P el sz] (hx : ev e x = some (.slice a n cp)) (hy : ev e y = some (.int k c)) (h0 : 0 ≤ c) (h1 : c ≤ n) :
    Yld P e ⟨d, .slice t x (some y) none none, ty, pos, aft, g⟩ (.slice (past a c.toNat cp sz) (n - c.toNat) (cp - c.toNat)) w := ⟨fun ρ hρ w' _ => by
  obtain ⟨j, h2, h3⟩ := hi.at_
  simp [execOp, hρ x _ hx, hρ y _ hy, Instr.sliceAt, Instr.slice, Instr.sliceBounds, Instr.sliceBound, asIntOf, run_underlying h.at_, h0, h1, sizeOf, typeInfo, h2, h3, past]⟩
theorem SlC.take {w : World} {p : Nat → Prop} {sz n m : Nat} {a : Option Addr} {f : Nat → List Value} (h : SlC w p sz a n f) (hm : m ≤ n) : SlC w p sz a m f := fun i hi => h i (by omega)
theorem SlC.past {w : World} {p : Nat → Prop} {sz n cp : Nat} {a : Option Addr} {f : Nat → List Value} (h : SlC w p sz a n f) {c : Nat} (hcp : n ≤ cp) : SlC w p sz (past a c cp sz) (n - c) (fun i => f (c + i)) := fun i hi => by
  obtain ⟨b, o, h1, h0, h2⟩ := h (c + i) (by omega)
  have hne : ¬ cp = c := by omega
  refine ⟨b, o + c * sz, ?_, h0, ?_⟩
  · unfold Go.Kd.past
    rw [if_neg hne, h1]
    simp only [Option.map_some, Option.some.injEq]
    exact Addr.add_mid ..
  · rw [Nat.add_assoc, ← Nat.add_mul]; exact h2

/-! ### Strings -/
theorem yld_index_str {s : ByteArray} {k : IntKind} {i : Nat} {c : UInt8} [h : Und P t .string] (hx : ev e x = some (.string s)) (hy : ev e y = some (.int k (i : Int))) (hc : s.toList[i]? = some c) :
    Yld P e ⟨d, .index t x y, ty, pos, aft, g⟩ (.int .u8 c.toNat) w := ⟨fun ρ hρ w' _ => by
  have hs : s[i]? = some c := by
    rw [Lib.toList_data] at hc
    have hlt : i < s.data.size := by
      have := (List.getElem?_eq_some_iff.1 hc).1
      simpa using this
    have hlt' : i < s.size := hlt
    rw [getElem?_pos s i hlt']
    rw [Array.getElem?_toList, Array.getElem?_eq_getElem hlt] at hc
    exact hc
  simp [execOp, hρ x _ hx, hρ y _ hy, Instr.index, asIntOf, run_underlying h.at_, hs]⟩
theorem size_toList (s : ByteArray) : s.toList.length = s.size := by rw [Lib.toList_data]; rfl

/-! ### A slice that the call owns -/
structure Own (w : World) (base el sz : Nat) (v : Value) (ls : List (List Value)) : Prop where
  each : ∀ l ∈ ls, l.length = sz
  row : w.ownsRow base el sz v ls.length ls.flatten
def App (w w' : World) (v : Value) : Prop := w.grownBy w' v.ownBlock

theorem flat_at {sz : Nat} : ∀ (ls : List (List Value)), (∀ l ∈ ls, l.length = sz) → ∀ (i : Nat) l (j : Nat) v, ls[i]? = some l → l[j]? = some v → ls.flatten[i * sz + j]? = some v
  | [], _, i, l, j, v, h, _ => by simp at h
  | a :: r, hl, 0, l, j, v, h, hv => by
    simp at h; subst h
    have : j < a.length := (List.getElem?_eq_some_iff.1 hv).1
    rw [Nat.zero_mul, Nat.zero_add, List.flatten_cons, List.getElem?_append_left this]
    exact hv
  | a :: r, hl, i + 1, l, j, v, h, hv => by
    have ha := hl a (List.mem_cons_self ..)
    have := flat_at r (fun l h => hl l (List.mem_cons_of_mem _ h)) i l j v (by simpa using h) hv
    rw [List.flatten_cons, List.getElem?_append_right (by rw [ha, Nat.succ_mul]; omega), ha]
    rw [show (i + 1) * sz + j - sz = i * sz + j from by rw [Nat.succ_mul]; omega]
    exact this
theorem Own.nil (w : World) (base el sz : Nat) : Own w base el sz (.slice none 0 0) [] := ⟨fun _ h => by (cases h), World.ownsRow_nil w base el sz⟩
theorem Own.shape {w : World} {base el sz : Nat} {v : Value} {ls : List (List Value)} (h : Own w base el sz v ls) : ∃ a cp, v = .slice a ls.length cp ∧ ls.length ≤ cp ∧ SlC w (fun b => v.ownBlock = some b) sz a ls.length (fun i => ls.getD i []) := by
  rcases h.row.2 with ⟨h1, h2⟩ | ⟨g, cap, cur, h1, h2, h3, h4, h5, h6, h7⟩
  · exact ⟨none, 0, by rw [h1, h2], by omega, fun i hi => by omega⟩
  · refine ⟨_, cap, h1, h4, fun i hi => ⟨g, 0, rfl, by rw [h1]; rfl, fun j v hv => ?_⟩⟩
    have hd : ls.getD i [] = ls[i] := by simp [List.getD, hi]
    simp only [hd] at hv
    have hl := h.each _ (List.getElem_mem hi)
    have hj : j < sz := by rw [← hl]; exact (List.getElem?_eq_some_iff.1 hv).1
    have h8 := flat_at ls h.each i _ j v (List.getElem?_eq_getElem hi) hv
    rw [← h7, List.getElem?_take_of_lt (by calc i * sz + j < i * sz + sz := by omega
      _ = (i + 1) * sz := by rw [Nat.succ_mul]
      _ ≤ ls.length * sz := Nat.mul_le_mul_right _ (by omega))] at h8
    rw [Nat.zero_add]
    exact cell_of ⟨h3⟩ (by simpa using h8)
theorem Own.lt {w : World} {base el sz : Nat} {v : Value} {ls : List (List Value)} (h : Own w base el sz v ls) : ∀ k, v.ownBlock = some k → base ≤ k ∧ k < w.heap.size := h.row.lt
/-- kept by whatever leaves its block alone -/
theorem Own.kept {w w' : World} {base el sz : Nat} {v : Value} {ls : List (List Value)} (h : Own w base el sz v ls) (hk : ∀ k, v.ownBlock = some k → w'.heap[k]? = w.heap[k]?) : Own w' base el sz v ls := by
  refine ⟨h.each, h.row.1, ?_⟩
  rcases h.row.2 with h1 | ⟨g, cap, cur, h1, h2, h3, h4⟩
  · exact .inl h1
  · exact .inr ⟨g, cap, cur, h1, h2, by rw [hk g (by rw [h1]; rfl)]; exact h3, h4⟩
theorem Own.ext {w w' : World} {base el sz : Nat} {v : Value} {ls : List (List Value)} (x : Ext w w') (h : Own w base el sz v ls) : Own w' base el sz v ls := h.kept fun k hk => x.below.block k (h.lt k hk).2
theorem Own.upd {w w' : World} {base el sz : Nat} {v : Value} {ls : List (List Value)} {b : Nat} {o : Obj} (u : Upd w b o w') (h : Own w base el sz v ls) (hb : ∀ k, v.ownBlock = some k → k ≠ b) : Own w' base el sz v ls := h.kept fun k hk => u.oth k (hb k hk)
theorem App.size {w w' : World} {v : Value} (h : App w w' v) : w.heap.size ≤ w'.heap.size := World.grownBy.size h
theorem App.ext {w0 w w' : World} {base el sz : Nat} {v : Value} {ls : List (List Value)} (h : App w w' v) (ho : Own w base el sz v ls) (x : Ext w0 w) (hb : w0.heap.size ≤ base) : Ext w0 w' :=
  ⟨⟨h.os.trans x.below.os, h.tape.trans x.below.tape, h.output.trans x.below.output, Nat.le_trans x.below.size h.size, fun k hk => by
    have := x.below.size
    rw [h.block k (by omega) (fun e => by have := ho.lt k e.symm; omega)]; exact x.below.block k hk⟩⟩
theorem App.keep {w w' : World} {v : Value} {b : Nat} {o : Obj} (h : App w w' v) (hc : Has w b o) (hne : ∀ k, v.ownBlock = some k → k ≠ b) : Has w' b o :=
  ⟨(h.block b hc.lt (fun e => hne b e.symm rfl)).trans hc.at_⟩

theorem run_append1 {el sz : Nat} {zs : List Value} [hu : Und P t (.slice el)] [hz : Zro P el zs] [hi : Inf P el sz] [hb : Byt P el] {base : Nat} {v : Value} {ls : List (List Value)} {b o c : Nat} {cs : List Value}
    (ho : Own w base el sz v ls) (hc : Cells w b o cs) (hl : cs.length = sz) (hzl : zs.length = sz) (hsz : 0 < sz) (h1 : ∀ u ∈ cs, u.oneCell' = true) (hn : ls.length ≤ 1073741824) (hbase : base ≤ w.heap.size) :
    ∃ v' w', (Builtin.append_ #[t, t] ty #[v, .slice (some ⟨b, o, none⟩) 1 c]).run P w = .ok v' w' ∧ Own w' base el sz v' (ls ++ [cs]) ∧ App w w' v ∧ (∀ g, v'.ownBlock = some g → v.ownBlock = some g ∨ g = w.heap.size) := by
  obtain ⟨i, zv, h2, h3, h4⟩ := hz.at_
  obtain ⟨i', h5, h6⟩ := hi.at_
  obtain ⟨i2, h7, h8⟩ := hb.at_
  obtain rfl : i = i' := by rw [h2] at h5; exact Option.some.inj h5
  obtain rfl : i = i2 := by rw [h2] at h7; exact Option.some.inj h7
  obtain ⟨v', w', hr, k1, k2, k3, k4⟩ := run_append_own_at (P := P) w base t ty el i zv sz i.bytes hu.at_ h2 h3 h6 rfl (by rw [h4]; simpa using hzl) hsz v ls.length ls.flatten ho.row ⟨b, o, none⟩ 1 c cs (by omega)
    (fun j u hu' => by rw [show (⟨b, o, none⟩ : Addr).add j = ⟨b, o + j, none⟩ from Addr.add_mid ..]; exact hc j u hu') h1 (by unfold maxLen; omega) (by
      have : (ls.length + 1) * i.bytes ≤ 1073741825 * 4096 := Nat.mul_le_mul (by omega) h8
      omega) hbase
  refine ⟨v', w', hr, ⟨fun l hl' => ?_, ?_⟩, k2, fun g hg => ?_⟩
  · rcases List.mem_append.1 hl' with h | h
    · exact ho.each l h
    · simp at h; rw [h]; exact hl
  · simpa using k1
  · rcases k4 with h | h
    · exact .inl (by rw [← h]; exact hg)
    · right; rw [h] at hg; simpa using hg.symm

theorem stp_append1 {el sz : Nat} {zs : List Value} [hu : Und P t (.slice el)] [hz : Zro P el zs] [hi : Inf P el sz] [hb : Byt P el] {base : Nat} {v : Value} {ls : List (List Value)} {b o c : Nat} {cs : List Value}
    (hx : ev e x = some v) (hy : ev e y = some (.slice (some ⟨b, o, none⟩) 1 c))
    (ho : Own w base el sz v ls) (hc : Cells w b o cs) (hl : cs.length = sz) (hzl : zs.length = sz) (hsz : 0 < sz) (h1 : ∀ u ∈ cs, u.oneCell' = true) (hn : ls.length ≤ 1073741824) (hbase : base ≤ w.heap.size) :
    Stp P e ⟨d, .call ⟨.builtin .append, #[x, y], #[t, t]⟩, ty, pos, aft, g⟩ w (fun v' w' => Own w' base el sz v' (ls ++ [cs]) ∧ App w w' v ∧ (∀ g, v'.ownBlock = some g → v.ownBlock = some g ∨ g = w.heap.size)) := ⟨fun ρ hρ => by
  obtain ⟨v', w', hr, h2⟩ := run_append1 (P := P) (t := t) (ty := ty) (c := c) (hu := hu) (hz := hz) (hi := hi) (hb := hb) ho hc hl hzl hsz h1 hn hbase
  have he : (execOp ρ ⟨d, .call ⟨.builtin .append, #[x, y], #[t, t]⟩, ty, pos, aft, g⟩).run P w = .ok (.value v') w' := by
    simp only [execOp, resolve, invoke, builtin, List.map_toArray, List.map_cons, List.map_nil, hρ x _ hx, hρ y _ hy, Sem.run_bind, Sem.run_pure, Result.andThen_ok, hr]
  rw [he]
  exact h2⟩

theorem Cells.upd {w w' : World} {b c o : Nat} {ob : Obj} {cs : List Value} (u : Upd w c ob w') (h : Cells w b o cs) (hne : b ≠ c) : Cells w' b o cs := fun j v hv => by
  have := h j v hv
  unfold World.cell? at this ⊢
  rw [u.oth b hne]
  exact this

/-! ### A cut behind a part whose ways meet again -/
theorem W.cut {n : Nat} {Q : Post} {D : List Deferred} {c1 c2 : Code} (e' : Env) (hx : W P n c1 (thn (fun D' e1 w1 => D' = D ∧ w1 = w ∧ subs e1 e') Q) D e w) (hy : W P n c2 Q D e' w) : W P n (.seq c1 c2) Q D e w :=
  W.seq (hx.mono fun x D' e1 w1 h => by
    cases x with
    | normal =>
      obtain ⟨rfl, rfl, h3⟩ := h
      exact hy.sub (sub_of h3)
    | _ => exact h)
abbrev zx := @yld_indexAddrN
abbrev zya := @yld_slice_hi
abbrev zyb := @yld_slice_lo
end Go.Kd
namespace Go.Kd
section
variable {P : Program} {ops : Array Oper} {md : Region.Mode} {R : World → World → Prop}
def wpER (R : World → World → Prop) (P : Program) (md : Region.Mode) (ops : Array Oper) (Q : Exit → Act → World → Prop) : Nat → Array Bool → Act → World → Prop
  | 0, listed, a, w => Region.ready md ops listed = [] ∧ Q .normal a w
  | fuel + 1, listed, a, w =>
    (Region.ready md ops listed = [] → Q .normal a w) ∧
    ∀ i ∈ Region.ready md ops listed, wpOp P ops Q i (fun a' w' => (R w w' ∨ lastB md ops i = true) ∧ wpER R P md ops Q fuel (listed.setIfInBounds i true) a' w') a w

theorem wpAny_of_wpER {Q : Exit → Act → World → Prop} : ∀ (fuel : Nat) (listed : Array Bool) (a : Act) (w : World), wpER R P md ops Q fuel listed a w → wpAny P md ops Q fuel listed a w
  | 0, _, _, _, h => h
  | fuel + 1, _, _, _, h => ⟨h.1, fun i hi => wpOp_mono (fun a' w' hk => wpAny_of_wpER fuel _ a' w' hk.2) (h.2 i hi)⟩

/-- In every later world the operation yields v. -/
def YldER (R : World → World → Prop) (P : Program) (ops : Array Oper) (o : Oper) (v : Value) (a : Act) (w : World) : Prop :=
  (Region.wanted o (yielded ops a.tmps) = true ∧ ∀ w', R w w' → (execOp a.eval o).run P w' = .ok (.value v) w') ∨
  (Region.wanted o (yielded ops a.tmps) = false ∧ v = undef)

theorem YldER.wpOp (hrr : ∀ w, R w w) {Q : Exit → Act → World → Prop} {i : Nat} {o : Oper} {v : Value} {a : Act} (hi : ops[i]? = some o) {w : World} (hy : YldER R P ops o v a w)
    {K : Act → World → Prop} (h : K (a.put o.dst v) w) : wpOp P ops Q i K a w := by
  unfold Go.wpOp
  simp only [hi]
  rcases hy with ⟨hw, hv⟩ | ⟨hw, rfl⟩
  · simp only [hw, if_true, Oper.wp, hv w (hrr w), Oper.upon]; exact .inl h
  · simp only [hw, Bool.false_eq_true, if_false]; exact h

theorem YldER.of_same (ht : ∀ a b c, R a b → R b c → R a c) {o : Oper} {v : Value} {a a' : Act} {w w' : World} (hy : YldER R P ops o v a w) (he : execOp a'.eval o = execOp a.eval o)
    (hw : Region.wanted o (yielded ops a'.tmps) = Region.wanted o (yielded ops a.tmps)) (hx : R w w') : YldER R P ops o v a' w' := by
  unfold YldER at *
  rw [he, hw]
  exact hy.imp (fun h => ⟨h.1, fun w2 h2 => h.2 w2 (ht _ _ _ hx h2)⟩) id

theorem wpER_first (hrr : ∀ w, R w w) (ht : ∀ a b c, R a b → R b c → R a c) {Q : Exit → Act → World → Prop} {i : Nat} {oi : Oper} {v : Value} (hi : ops[i]? = some oi) (hsel : ∀ (j : Nat) (o : Oper) cs b, ops[j]? = some o → o.op ≠ .select cs b)
    (hQ : ∀ c a w, Q (.panic c) (a.put oi.dst v) w → Q (.panic c) a w) :
    ∀ (fuel : Nat) (listed : Array Bool) (a : Act) (w : World), Closed md ops listed →
      (∀ j oj, ops[j]? = some oj → j ≠ i → listed.getD j true = false → (∀ e ∈ oj.after, Region.binds md e = true → e.on ≠ i) → oi.apart ops oj = true) →
      i ∈ Region.ready md ops listed → YldER R P ops oi v a w →
      wpER R P md ops Q fuel (listed.setIfInBounds i true) (a.put oi.dst v) w → wpER R P md ops Q (fuel + 1) listed a w := by
  intro fuel
  induction fuel with
  | zero =>
    intro listed a w _ _ hr hy H
    refine ⟨fun h => (by rw [h] at hr; cases hr), fun j hj => ?_⟩
    by_cases hji : j = i
    · subst hji; exact hy.wpOp hrr hi ⟨.inl (hrr w), H⟩
    · have := ready_mono hj hji
      rw [H.1] at this
      cases this
  | succ fuel ih =>
    intro listed a w hcl hfree hr hy H
    refine ⟨fun h => (by rw [h] at hr; cases hr), fun j hj => ?_⟩
    by_cases hji : j = i
    · subst hji; exact hy.wpOp hrr hi ⟨.inl (hrr w), H⟩
    · have h1 := H.2 j (ready_mono hj hji)
      obtain ⟨hjun, oj, hoj, hall⟩ := mem_ready.1 hj
      have hnot : ∀ e ∈ oj.after, Region.binds md e = true → e.on ≠ i := fun e he hb heq => by
        have h1 := hall e he hb
        have h0 := (mem_ready.1 hr).1
        rw [heq] at h1
        rcases Nat.lt_or_ge i listed.size with h' | h'
        · simp [h'] at h0 h1; rw [h0] at h1; cases h1
        · simp [Array.getElem?_eq_none h'] at h1
      have h2 := wpOp_putE hoj (hfree j oj hoj hji hjun hnot) (fun cs b => hsel i oi cs b hi) (fun cs b => hsel j oj cs b hoj) hQ h1
      have hfree' : ∀ k ok, ops[k]? = some ok → k ≠ i → (listed.setIfInBounds j true).getD k true = false →
          (∀ e ∈ ok.after, Region.binds md e = true → e.on ≠ i) → oi.apart ops ok = true := fun k ok hk hki hun hno => by
        refine hfree k ok hk hki ?_ hno
        by_cases hjk : j = k
        · subst hjk; exact hjun
        · rw [getD_set_ne true hjk] at hun; exact hun
      refine wpOp_mono (fun a' w' h3 => ?_) h2
      obtain ⟨hsame, hx, h4⟩ := h3
      replace hx : R w w' := hx.resolve_right fun hlast => by
        have un : ∀ k, listed.getD k true = false → listed.getD k false = true → False := fun k h0 h1 => by
          rcases Nat.lt_or_ge k listed.size with h' | h'
          · simp [h'] at h0 h1; rw [h0] at h1; cases h1
          · simp [Array.getElem?_eq_none h'] at h1
        rcases lastB_spec hlast hi (Ne.symm hji) with h | h
        · exact un i (mem_ready.1 hr).1 (anc_listed hcl hoj hall h)
        · obtain ⟨_, oi', hoi', hall'⟩ := mem_ready.1 hr
          rw [hi] at hoi'
          cases hoi'
          exact un j hjun (anc_listed hcl hi hall' h)
      refine ⟨.inl hx, ih (listed.setIfInBounds j true) a' w' (hcl.step hj) hfree' (ready_mono hr (Ne.symm hji)) (hy.of_same ht hsame.1 hsame.2 hx) ?_⟩
      rw [Array.setIfInBounds_comm _ _ hji]
      exact h4

/-- The walk along a list of operations. -/
def wpLR (R : World → World → Prop) (P : Program) (ops : Array Oper) (Q : Exit → Act → World → Prop) : List (Oper × Kn) → Act → World → Prop
  | [], a, w => Q .normal a w
  | (o, .q) :: r, a, w => ∃ v, YldER R P ops o v a w ∧ wpLR R P ops Q r (a.put o.dst v) w
  | (o, .l) :: r, a, w =>
    if Region.wanted o (yielded ops a.tmps) then o.wp P a w (fun a' w' => R w w' ∧ wpLR R P ops Q r a' w') Q else wpLR R P ops Q r (a.put o.dst undef) w
  | (o, .z) :: r, a, w =>
    if Region.wanted o (yielded ops a.tmps) then o.wp P a w (fun a' w' => wpLR R P ops Q r a' w') Q else wpLR R P ops Q r (a.put o.dst undef) w

theorem wpER_of_wpLR (hrr : ∀ w, R w w) (ht : ∀ a b c, R a b → R b c → R a c) {Q : Exit → Act → World → Prop} (hQ : ∀ c a w, Q (.panic c) a w → False) (hs : Region.noSelect ops = true) :
    ∀ (l : List (Nat × Kn)) (listed : Array Bool) (a : Act) (w : World), Closed md ops listed → ordOk md ops l listed = true → wpLR R P ops Q (pick ops l) a w → wpER R P md ops Q l.length listed a w
  | [], listed, a, w, _, ho, h => ⟨by simpa [ordOk] using ho, h⟩
  | (i, .q) :: r, listed, a, w, hcl, ho, h => by
    simp only [ordOk, Bool.and_eq_true] at ho
    obtain ⟨⟨hr, hf⟩, ho'⟩ := ho
    have hr' : i ∈ Region.ready md ops listed := by simpa using hr
    obtain ⟨_, oi, hi, _⟩ := mem_ready.1 hr'
    simp only [pick, hi, Option.getD_some, wpLR] at h
    obtain ⟨v, hy, hk⟩ := h
    exact wpER_first hrr ht hi (Region.noSelect_spec hs) (fun c a w hq => (hQ c _ w hq).elim) r.length listed a w hcl (Region.free_spec hi hf) hr' hy (wpER_of_wpLR hrr ht hQ hs r _ _ _ (hcl.step hr') ho' hk)
  | (i, .l) :: r, listed, a, w, hcl, ho, h => by
    simp only [ordOk, Bool.and_eq_true, beq_iff_eq] at ho
    obtain ⟨hr, ho'⟩ := ho
    refine ⟨fun h0 => (by rw [h0] at hr; cases hr), fun j hj => ?_⟩
    rw [hr] at hj
    obtain rfl : j = i := by simpa using hj
    have hr' : j ∈ Region.ready md ops listed := by rw [hr]; simp
    obtain ⟨_, oi, hi, _⟩ := mem_ready.1 hr'
    simp only [pick, hi, Option.getD_some, wpLR] at h
    unfold wpOp
    simp only [hi]
    split
    · rename_i hw
      simp only [hw, if_true] at h
      exact .inl (Oper.wp_mono (fun a' w' hk => ⟨.inl hk.1, wpER_of_wpLR hrr ht hQ hs r _ a' w' (hcl.step hr') ho' hk.2⟩) h)
    · rename_i hw
      simp only [hw] at h
      exact ⟨.inl (hrr w), wpER_of_wpLR hrr ht hQ hs r _ _ w (hcl.step hr') ho' h⟩
  | (i, .z) :: r, listed, a, w, hcl, ho, h => by
    simp only [ordOk, Bool.and_eq_true, beq_iff_eq] at ho
    obtain ⟨⟨hr, hlast⟩, ho'⟩ := ho
    refine ⟨fun h0 => (by rw [h0] at hr; cases hr), fun j hj => ?_⟩
    rw [hr] at hj
    obtain rfl : j = i := by simpa using hj
    have hr' : j ∈ Region.ready md ops listed := by rw [hr]; simp
    obtain ⟨_, oi, hi, _⟩ := mem_ready.1 hr'
    simp only [pick, hi, Option.getD_some, wpLR] at h
    unfold wpOp
    simp only [hi]
    split
    · rename_i hw
      simp only [hw, if_true] at h
      exact .inl (Oper.wp_mono (fun a' w' hk => ⟨.inr hlast, wpER_of_wpLR hrr ht hQ hs r _ a' w' (hcl.step hr') ho' hk⟩) h)
    · rename_i hw
      simp only [hw] at h
      exact ⟨.inr hlast, wpER_of_wpLR hrr ht hQ hs r _ _ w (hcl.step hr') ho' h⟩
end


section
variable {P : Program} {n : Nat} {Q : Post} {D : List Deferred} {e : Env} {w : World} {R : World → World → Prop}
theorem W.regionR [hm : Mixed P] (hr : ∀ w, R w w) (ht : ∀ a b c, R a b → R b c → R a c) {id : Nat} {l : List Oper} (L : List (Nat × Kn)) (hs : Region.noSelect l.toArray = true) (hL : ordOk .any l.toArray L (Array.replicate l.length false) = true)
    (hlen : L.length = l.length) (h : ∀ w', Ext w w' → (w'.heap = w.heap) → ∀ a, Fr n D e a → wpLR R P l.toArray (post n Q) (pick l.toArray L) a w') : W P n (.region id l.toArray true) Q D e w := ⟨fun a ha => by
  refine wp_region_any hm.mixed (wpAny_of_wpER (R := R) _ _ _ _ ?_)
  have hx : Ext w { w with drawn := w.drawn + 1 } := ⟨⟨rfl, rfl, rfl, Nat.le_refl _, fun _ _ => rfl⟩⟩
  have := wpER_of_wpLR (md := .any) (Q := post n Q) hr ht (fun c a w hq => hq) hs L (Array.replicate l.length false) a _ (fun k ok _ h => by simp [Array.getD] at h) hL (h _ hx rfl a ha)
  rw [hlen] at this
  simpa using this⟩

structure WR (R : World → World → Prop) (P : Program) (n : Nat) (ops : List Oper) (Q : Post) (L : List (Nat × Kn)) (D : List Deferred) (e : Env) (w : World) : Prop where
  out : ∀ a, Fr n D e a → wpLR R P ops.toArray (post n Q) (pick ops.toArray L) a w
variable {ops : List Oper}
theorem W.regR [Mixed P] (hr : ∀ w, R w w) (ht : ∀ a b c, R a b → R b c → R a c) {id : Nat} {l : List Oper} (L : List (Nat × Kn)) (hs : Region.noSelect l.toArray = true) (hL : ordOk .any l.toArray L (Array.replicate l.length false) = true)
    (hlen : L.length = l.length) (h : ∀ w', Ext w w' → (w'.heap = w.heap) → WR R P n l Q L D e w') : W P n (.region id l.toArray true) Q D e w :=
  W.regionR hr ht L hs hL hlen fun w' x y => (h w' x y).out
theorem WR.nil (h : Q .normal D e w) : WR R P n ops Q [] D e w := ⟨fun _ ha => ⟨D, e, ha, h⟩⟩
theorem WR.nilk {K : List Deferred → Env → World → Prop} (h : K D e w) : WR R P n ops (thn K Q) [] D e w := ⟨fun _ ha => ⟨D, e, ha, h⟩⟩
theorem WR.yld {i : Nat} {b : Kn} {o : Oper} {r : List (Nat × Kn)} {d : Nat} {v : Value} (hr : ∀ w, R w w) (hi : ops[i]? = some o) (hd : o.dst = some d) (hl : Nat.blt d n = true) (hg : wn ops e o.guard = some true) (h : ∀ w', R w w' → Yld P e o v w')
    (hk : WR R P n ops Q r D ((d, v) :: e) w) : WR R P n ops Q ((i, b) :: r) D e w := ⟨fun a ha => by
  have hi' : ops.toArray[i]? = some o := by simpa using hi
  have hp : Fr n D ((d, v) :: e) (a.put o.dst v) := by rw [hd]; exact ha.put (by simpa [Nat.blt_eq] using hl) v
  simp only [pick, hi', Option.getD_some]
  cases b with
  | q => exact ⟨v, .inl ⟨wn_spec hg ha, fun w' hx => (h w' hx).out _ ha.ag w' (Ext.rfl' w')⟩, hk.out _ hp⟩
  | l =>
    simp only [wpLR]
    rw [wn_spec hg ha, if_pos rfl]
    exact upon_of_stp ha (h w (hr w)).stp fun v' w' ⟨h1, h2⟩ => by rw [h1, h2]; exact ⟨hr w, hk.out _ hp⟩
  | z =>
    simp only [wpLR]
    rw [wn_spec hg ha, if_pos rfl]
    exact upon_of_stp ha (h w (hr w)).stp fun v' w' ⟨h1, h2⟩ => by rw [h1, h2]; exact hk.out _ hp⟩
theorem WR.skip {i : Nat} {b : Kn} {o : Oper} {r : List (Nat × Kn)} {d : Nat} (hi : ops[i]? = some o) (hd : o.dst = some d) (hl : Nat.blt d n = true) (hg : wn ops e o.guard = some false)
    (hk : WR R P n ops Q r D ((d, undef) :: e) w) : WR R P n ops Q ((i, b) :: r) D e w := ⟨fun a ha => by
  have hi' : ops.toArray[i]? = some o := by simpa using hi
  have hp : Fr n D ((d, undef) :: e) (a.put o.dst undef) := by rw [hd]; exact ha.put (by simpa [Nat.blt_eq] using hl) _
  simp only [pick, hi', Option.getD_some]
  cases b with
  | q => exact ⟨undef, .inr ⟨wn_spec hg ha, rfl⟩, hk.out _ hp⟩
  | l =>
    simp only [wpLR]
    rw [wn_spec hg ha]
    simp only [Bool.false_eq_true, if_false]
    exact hk.out _ hp
  | z =>
    simp only [wpLR]
    rw [wn_spec hg ha]
    simp only [Bool.false_eq_true, if_false]
    exact hk.out _ hp⟩
theorem WR.stp {i : Nat} {o : Oper} {r : List (Nat × Kn)} {d : Nat} {S : Value → World → Prop} (hi : ops[i]? = some o) (hd : o.dst = some d) (hl : Nat.blt d n = true) (hg : wn ops e o.guard = some true) (h : Stp P e o w S)
    (hk : ∀ v w', S v w' → R w w' ∧ WR R P n ops Q r D ((d, v) :: e) w') : WR R P n ops Q ((i, .l) :: r) D e w := ⟨fun a ha => by
  have hi' : ops.toArray[i]? = some o := by simpa using hi
  simp only [pick, hi', Option.getD_some, wpLR]
  rw [wn_spec hg ha, if_pos rfl]
  exact upon_of_stp ha h fun v w' hr => ⟨(hk v w' hr).1, (hk v w' hr).2.out _ (by rw [hd]; exact ha.put (by simpa [Nat.blt_eq] using hl) v)⟩⟩
theorem WR.last0 {i : Nat} {o : Oper} {r : List (Nat × Kn)} {S : Value → World → Prop} (hi : ops[i]? = some o) (hd : o.dst = none) (hg : wn ops e o.guard = some true) (h : Stp P e o w S)
    (hk : ∀ v w', S v w' → WR R P n ops Q r D e w') : WR R P n ops Q ((i, .z) :: r) D e w := ⟨fun a ha => by
  have hi' : ops.toArray[i]? = some o := by simpa using hi
  simp only [pick, hi', Option.getD_some, wpLR]
  rw [wn_spec hg ha, if_pos rfl]
  exact upon_of_stp ha h fun v w' hr => (hk v w' hr).out _ (by rw [hd]; exact ha)⟩
/-- an operation without a result that is not the last -/
theorem WR.stp0 {i : Nat} {o : Oper} {r : List (Nat × Kn)} {S : Value → World → Prop} (hi : ops[i]? = some o) (hd : o.dst = none) (hg : wn ops e o.guard = some true) (h : Stp P e o w S)
    (hk : ∀ v w', S v w' → R w w' ∧ WR R P n ops Q r D e w') : WR R P n ops Q ((i, .l) :: r) D e w := ⟨fun a ha => by
  have hi' : ops.toArray[i]? = some o := by simpa using hi
  simp only [pick, hi', Option.getD_some, wpLR]
  rw [wn_spec hg ha, if_pos rfl]
  exact upon_of_stp ha h fun v w' hr => ⟨(hk v w' hr).1, (hk v w' hr).2.out _ (by rw [hd]; exact ha)⟩⟩
end
end Go.Kd
namespace Go.Proofs.YtpiegpegjbmlkaaGreatDoor
open Go Go.Kd
set_option maxRecDepth 100000
instance : Mixed Tryz.prog := ⟨by kernel_rfl⟩
instance : Scl Tryz.prog 2 := scl_of (by kernel_rfl)
instance : Scl Tryz.prog 3 := scl_of (by kernel_rfl)
instance : Inf Tryz.prog 3 1 := inf_of (by kernel_rfl)
instance : Und Tryz.prog 4 .bool := ⟨by kernel_rfl⟩
instance : Scl Tryz.prog 4 := scl_of (by kernel_rfl)
instance : Inf Tryz.prog 4 1 := inf_of (by kernel_rfl)
instance : Zro Tryz.prog 4 [(.bool false)] := zro_of (v := (.bool false)) (by kernel_rfl) rfl
instance : Und Tryz.prog 5 (.int .u8) := ⟨by kernel_rfl⟩
instance : Scl Tryz.prog 5 := scl_of (by kernel_rfl)
instance : Inf Tryz.prog 5 1 := inf_of (by kernel_rfl)
instance : Und Tryz.prog 9 .string := ⟨by kernel_rfl⟩
instance : Scl Tryz.prog 9 := scl_of (by kernel_rfl)
instance : Inf Tryz.prog 9 1 := inf_of (by kernel_rfl)
instance : Zro Tryz.prog 9 [(.string ⟨#[]⟩)] := zro_of (v := (.string ⟨#[]⟩)) (by kernel_rfl) rfl
instance : Inf Tryz.prog 20 1 := inf_of (by kernel_rfl)
instance : Zro Tryz.prog 20 [.nilIface] := zro_of (v := .nilIface) (by kernel_rfl) rfl
instance : Und Tryz.prog 21 (.int .i32) := ⟨by kernel_rfl⟩
instance : Und Tryz.prog 22 (.slice 51) := ⟨by kernel_rfl⟩
instance : Scl Tryz.prog 23 := scl_of (by kernel_rfl)
instance : Und Tryz.prog 24 (.slice 26) := ⟨by kernel_rfl⟩
instance : Scl Tryz.prog 24 := scl_of (by kernel_rfl)
instance : Agt Tryz.prog 26 8 := agt_of (by kernel_rfl)
instance : Fld Tryz.prog 26 0 0 := fld_of (by kernel_rfl)
instance : Fld Tryz.prog 26 1 1 := fld_of (by kernel_rfl)
instance : Fld Tryz.prog 26 2 2 := fld_of (by kernel_rfl)
instance : Fld Tryz.prog 26 3 3 := fld_of (by kernel_rfl)
instance : Fld Tryz.prog 26 4 4 := fld_of (by kernel_rfl)
instance : Fld Tryz.prog 26 5 5 := fld_of (by kernel_rfl)
instance : Fld Tryz.prog 26 6 6 := fld_of (by kernel_rfl)
instance : Fld Tryz.prog 26 7 7 := fld_of (by kernel_rfl)
instance : Plc Tryz.prog 26 [(0, 1), (1, 1), (2, 1), (3, 1), (4, 1), (5, 1), (6, 1), (7, 1)] := plc_of (by kernel_rfl)
instance : Inf Tryz.prog 26 8 := inf_of (by kernel_rfl)
instance : Zro Tryz.prog 26 [(.int .i64 0), (.int .i64 0), (.int .i64 0), (.bool false), (.slice none 0 0), (.string ⟨#[]⟩), (.string ⟨#[]⟩), (.bool false)] := zro_of (v := (.agg #[(.int .i64 0), (.int .i64 0), (.int .i64 0), (.bool false), (.slice none 0 0), (.string ⟨#[]⟩), (.string ⟨#[]⟩), (.bool false)])) (by kernel_rfl) rfl
instance : Und Tryz.prog 49 (.slice 92) := ⟨by kernel_rfl⟩
instance : Scl Tryz.prog 49 := scl_of (by kernel_rfl)
instance : Agt Tryz.prog 51 12 := agt_of (by kernel_rfl)
instance : Fld Tryz.prog 51 0 0 := fld_of (by kernel_rfl)
instance : Fld Tryz.prog 51 1 1 := fld_of (by kernel_rfl)
instance : Fld Tryz.prog 51 2 2 := fld_of (by kernel_rfl)
instance : Fld Tryz.prog 51 3 3 := fld_of (by kernel_rfl)
instance : Fld Tryz.prog 51 4 11 := fld_of (by kernel_rfl)
instance : Plc Tryz.prog 51 [(0, 1), (1, 1), (2, 1), (3, 8), (11, 1)] := plc_of (by kernel_rfl)
instance : Inf Tryz.prog 51 12 := inf_of (by kernel_rfl)
instance : Zro Tryz.prog 51 [(.string ⟨#[]⟩), (.int .i64 0), (.bool false), (.int .i64 0), (.int .i64 0), (.int .i64 0), (.bool false), (.slice none 0 0), (.string ⟨#[]⟩), (.string ⟨#[]⟩), (.bool false), (.slice none 0 0)] := zro_of (v := (.agg #[(.string ⟨#[]⟩), (.int .i64 0), (.bool false), (.int .i64 0), (.int .i64 0), (.int .i64 0), (.bool false), (.slice none 0 0), (.string ⟨#[]⟩), (.string ⟨#[]⟩), (.bool false), (.slice none 0 0)])) (by kernel_rfl) rfl
instance : Und Tryz.prog 68 (.interface #[("Underlying", 77)]) := ⟨by kernel_rfl⟩
instance : Scl Tryz.prog 68 := scl_of (by kernel_rfl)
instance : Inf Tryz.prog 68 1 := inf_of (by kernel_rfl)
instance : Zro Tryz.prog 68 [.nilIface] := zro_of (v := .nilIface) (by kernel_rfl) rfl
instance : Und Tryz.prog 75 (.pointer 98) := ⟨by kernel_rfl⟩
instance : Zv Tryz.prog 75 (.pointer none) := zv_of (by kernel_rfl)
instance : PtrT Tryz.prog 75 := ptr_of (by kernel_rfl)
instance : CmpT Tryz.prog 75 := cmp_of (by kernel_rfl)
instance : Mth Tryz.prog 75 "Underlying" 255 := mth_of (by kernel_rfl)
instance : Und Tryz.prog 78 (.slice 80) := ⟨by kernel_rfl⟩
instance : Scl Tryz.prog 78 := scl_of (by kernel_rfl)
instance : Und Tryz.prog 80 (.pointer 106) := ⟨by kernel_rfl⟩
instance : Scl Tryz.prog 80 := scl_of (by kernel_rfl)
instance : Inf Tryz.prog 80 1 := inf_of (by kernel_rfl)
instance : Zro Tryz.prog 80 [(.pointer none)] := zro_of (v := (.pointer none)) (by kernel_rfl) rfl
instance : Und Tryz.prog 88 (.slice 9) := ⟨by kernel_rfl⟩
instance : Scl Tryz.prog 88 := scl_of (by kernel_rfl)
instance : Agt Tryz.prog 92 9 := agt_of (by kernel_rfl)
instance : Fld Tryz.prog 92 0 0 := fld_of (by kernel_rfl)
instance : Fld Tryz.prog 92 1 1 := fld_of (by kernel_rfl)
instance : Inf Tryz.prog 92 9 := inf_of (by kernel_rfl)
instance : Zro Tryz.prog 92 [(.bool false), (.int .i64 0), (.int .i64 0), (.int .i64 0), (.bool false), (.slice none 0 0), (.string ⟨#[]⟩), (.string ⟨#[]⟩), (.bool false)] := zro_of (v := (.agg #[(.bool false), (.int .i64 0), (.int .i64 0), (.int .i64 0), (.bool false), (.slice none 0 0), (.string ⟨#[]⟩), (.string ⟨#[]⟩), (.bool false)])) (by kernel_rfl) rfl
instance : Und Tryz.prog 94 (.pointer 96) := ⟨by kernel_rfl⟩
instance : Zv Tryz.prog 94 (.pointer none) := zv_of (by kernel_rfl)
instance : PtrT Tryz.prog 94 := ptr_of (by kernel_rfl)
instance : CmpT Tryz.prog 94 := cmp_of (by kernel_rfl)
instance : Mth Tryz.prog 94 "Underlying" 258 := mth_of (by kernel_rfl)
instance : Fld Tryz.prog 96 0 0 := fld_of (by kernel_rfl)
instance : Fld Tryz.prog 96 1 1 := fld_of (by kernel_rfl)
instance : Plc Tryz.prog 96 [(0, 1), (1, 1)] := plc_of (by kernel_rfl)
instance : Zro Tryz.prog 96 [(.int .i64 0), .nilIface] := zro_of (v := (.agg #[(.int .i64 0), .nilIface])) (by kernel_rfl) rfl
instance : Fld Tryz.prog 98 0 0 := fld_of (by kernel_rfl)
instance : Fld Tryz.prog 98 1 1 := fld_of (by kernel_rfl)
instance : Plc Tryz.prog 98 [(0, 1), (1, 1)] := plc_of (by kernel_rfl)
instance : Zro Tryz.prog 98 [(.slice none 0 0), (.slice none 0 0)] := zro_of (v := (.agg #[(.slice none 0 0), (.slice none 0 0)])) (by kernel_rfl) rfl
instance : Scl Tryz.prog 100 := scl_of (by kernel_rfl)
instance : Und Tryz.prog 101 (.pointer 162) := ⟨by kernel_rfl⟩
instance : Scl Tryz.prog 101 := scl_of (by kernel_rfl)
instance : Inf Tryz.prog 101 1 := inf_of (by kernel_rfl)
instance : Fld Tryz.prog 103 0 0 := fld_of (by kernel_rfl)
instance : Fld Tryz.prog 103 1 1 := fld_of (by kernel_rfl)
instance : Fld Tryz.prog 103 2 2 := fld_of (by kernel_rfl)
instance : Fld Tryz.prog 103 3 3 := fld_of (by kernel_rfl)
instance : Plc Tryz.prog 103 [(0, 1), (1, 1), (2, 1), (3, 1)] := plc_of (by kernel_rfl)
instance : Zro Tryz.prog 103 [(.int .i64 0), (.pointer none), (.string ⟨#[]⟩), .nilIface] := zro_of (v := (.agg #[(.int .i64 0), (.pointer none), (.string ⟨#[]⟩), .nilIface])) (by kernel_rfl) rfl
instance : Fld Tryz.prog 106 0 0 := fld_of (by kernel_rfl)
instance : Fld Tryz.prog 106 2 5 := fld_of (by kernel_rfl)
instance : Plc Tryz.prog 106 [(0, 4), (4, 1), (5, 1)] := plc_of (by kernel_rfl)
instance : Zro Tryz.prog 106 [(.int .i64 0), (.pointer none), (.string ⟨#[]⟩), .nilIface, (.int .u8 0), (.bool false)] := zro_of (v := (.agg #[(.int .i64 0), (.pointer none), (.string ⟨#[]⟩), .nilIface, (.int .u8 0), (.bool false)])) (by kernel_rfl) rfl
instance : Und Tryz.prog 107 (.pointer 214) := ⟨by kernel_rfl⟩
instance : Scl Tryz.prog 107 := scl_of (by kernel_rfl)
instance : Zv Tryz.prog 107 (.pointer none) := zv_of (by kernel_rfl)
instance : Zro Tryz.prog 107 [(.pointer none)] := zro_of (v := (.pointer none)) (by kernel_rfl) rfl
instance : PtrT Tryz.prog 107 := ptr_of (by kernel_rfl)
instance : CmpT Tryz.prog 107 := cmp_of (by kernel_rfl)
instance : Mth Tryz.prog 107 "Underlying" 261 := mth_of (by kernel_rfl)
instance : Und Tryz.prog 108 (.pointer 175) := ⟨by kernel_rfl⟩
instance : Scl Tryz.prog 108 := scl_of (by kernel_rfl)
instance : Inf Tryz.prog 108 1 := inf_of (by kernel_rfl)
instance : Zv Tryz.prog 108 (.pointer none) := zv_of (by kernel_rfl)
instance : Zro Tryz.prog 108 [(.pointer none)] := zro_of (v := (.pointer none)) (by kernel_rfl) rfl
instance : PtrT Tryz.prog 108 := ptr_of (by kernel_rfl)
instance : CmpT Tryz.prog 108 := cmp_of (by kernel_rfl)
instance : Mth Tryz.prog 108 "Underlying" 263 := mth_of (by kernel_rfl)
instance : Und Tryz.prog 109 (.pointer 139) := ⟨by kernel_rfl⟩
instance : Scl Tryz.prog 109 := scl_of (by kernel_rfl)
instance : Inf Tryz.prog 109 1 := inf_of (by kernel_rfl)
instance : Zv Tryz.prog 109 (.pointer none) := zv_of (by kernel_rfl)
instance : Zro Tryz.prog 109 [(.pointer none)] := zro_of (v := (.pointer none)) (by kernel_rfl) rfl
instance : PtrT Tryz.prog 109 := ptr_of (by kernel_rfl)
instance : CmpT Tryz.prog 109 := cmp_of (by kernel_rfl)
instance : Mth Tryz.prog 109 "Underlying" 265 := mth_of (by kernel_rfl)
instance : Und Tryz.prog 112 (.pointer 391) := ⟨by kernel_rfl⟩
instance : Zv Tryz.prog 112 (.pointer none) := zv_of (by kernel_rfl)
instance : Und Tryz.prog 113 (.pointer 281) := ⟨by kernel_rfl⟩
instance : Zv Tryz.prog 113 (.pointer none) := zv_of (by kernel_rfl)
instance : Und Tryz.prog 115 (.array 2 101) := ⟨by kernel_rfl⟩
instance : Zro Tryz.prog 115 [(.pointer none), (.pointer none)] := zro_of (v := (.agg #[(.pointer none), (.pointer none)])) (by kernel_rfl) rfl
instance : Und Tryz.prog 116 (.slice 68) := ⟨by kernel_rfl⟩
instance : Scl Tryz.prog 116 := scl_of (by kernel_rfl)
instance : Und Tryz.prog 117 (.pointer 185) := ⟨by kernel_rfl⟩
instance : Zv Tryz.prog 117 (.pointer none) := zv_of (by kernel_rfl)
instance : PtrT Tryz.prog 117 := ptr_of (by kernel_rfl)
instance : CmpT Tryz.prog 117 := cmp_of (by kernel_rfl)
instance : Mth Tryz.prog 117 "Underlying" 269 := mth_of (by kernel_rfl)
instance : Und Tryz.prog 119 (.slice 108) := ⟨by kernel_rfl⟩
instance : Scl Tryz.prog 119 := scl_of (by kernel_rfl)
instance : Fld Tryz.prog 121 0 0 := fld_of (by kernel_rfl)
instance : Fld Tryz.prog 121 1 2 := fld_of (by kernel_rfl)
instance : Fld Tryz.prog 121 2 3 := fld_of (by kernel_rfl)
instance : Fld Tryz.prog 121 3 4 := fld_of (by kernel_rfl)
instance : Plc Tryz.prog 121 [(0, 2), (2, 1), (3, 1), (4, 1)] := plc_of (by kernel_rfl)
instance : Zro Tryz.prog 121 [(.pointer none), (.pointer none), (.slice none 0 0), .nilIface, (.slice none 0 0)] := zro_of (v := (.agg #[(.pointer none), (.pointer none), (.slice none 0 0), .nilIface, (.slice none 0 0)])) (by kernel_rfl) rfl
instance : Scl Tryz.prog 123 := scl_of (by kernel_rfl)
instance : PtrT Tryz.prog 123 := ptr_of (by kernel_rfl)
instance : Und Tryz.prog 125 (.pointer 266) := ⟨by kernel_rfl⟩
instance : Scl Tryz.prog 125 := scl_of (by kernel_rfl)
instance : Zv Tryz.prog 125 (.pointer none) := zv_of (by kernel_rfl)
instance : PtrT Tryz.prog 125 := ptr_of (by kernel_rfl)
instance : CmpT Tryz.prog 125 := cmp_of (by kernel_rfl)
instance : Mth Tryz.prog 125 "Underlying" 273 := mth_of (by kernel_rfl)
instance : Und Tryz.prog 128 (.pointer 201) := ⟨by kernel_rfl⟩
instance : Zv Tryz.prog 128 (.pointer none) := zv_of (by kernel_rfl)
instance : PtrT Tryz.prog 128 := ptr_of (by kernel_rfl)
instance : CmpT Tryz.prog 128 := cmp_of (by kernel_rfl)
instance : Mth Tryz.prog 128 "Underlying" 275 := mth_of (by kernel_rfl)
instance : Und Tryz.prog 132 (.pointer 204) := ⟨by kernel_rfl⟩
instance : Scl Tryz.prog 132 := scl_of (by kernel_rfl)
instance : Inf Tryz.prog 132 1 := inf_of (by kernel_rfl)
instance : Zro Tryz.prog 132 [(.pointer none)] := zro_of (v := (.pointer none)) (by kernel_rfl) rfl
instance : PtrT Tryz.prog 132 := ptr_of (by kernel_rfl)
instance : Und Tryz.prog 134 (.pointer 170) := ⟨by kernel_rfl⟩
instance : Zv Tryz.prog 134 (.pointer none) := zv_of (by kernel_rfl)
instance : PtrT Tryz.prog 134 := ptr_of (by kernel_rfl)
instance : CmpT Tryz.prog 134 := cmp_of (by kernel_rfl)
instance : Mth Tryz.prog 134 "Underlying" 276 := mth_of (by kernel_rfl)
instance : Scl Tryz.prog 137 := scl_of (by kernel_rfl)
instance : Fld Tryz.prog 139 0 0 := fld_of (by kernel_rfl)
instance : Plc Tryz.prog 139 [(0, 1), (1, 1), (2, 1)] := plc_of (by kernel_rfl)
instance : Zro Tryz.prog 139 [(.int .i64 0), (.int .i64 0), (.string ⟨#[]⟩)] := zro_of (v := (.agg #[(.int .i64 0), (.int .i64 0), (.string ⟨#[]⟩)])) (by kernel_rfl) rfl
instance : Fld Tryz.prog 142 0 0 := fld_of (by kernel_rfl)
instance : Fld Tryz.prog 142 1 1 := fld_of (by kernel_rfl)
instance : Zro Tryz.prog 142 [(.bool false), (.bool false)] := zro_of (v := (.agg #[(.bool false), (.bool false)])) (by kernel_rfl) rfl
instance : Und Tryz.prog 145 (.slice 148) := ⟨by kernel_rfl⟩
instance : Agt Tryz.prog 148 10 := agt_of (by kernel_rfl)
instance : Fld Tryz.prog 148 0 0 := fld_of (by kernel_rfl)
instance : Fld Tryz.prog 148 1 1 := fld_of (by kernel_rfl)
instance : Fld Tryz.prog 148 2 2 := fld_of (by kernel_rfl)
instance : Plc Tryz.prog 148 [(0, 1), (1, 1), (2, 8)] := plc_of (by kernel_rfl)
instance : Inf Tryz.prog 148 10 := inf_of (by kernel_rfl)
instance : Zro Tryz.prog 148 [(.string ⟨#[]⟩), (.int .i64 0), (.int .i64 0), (.int .i64 0), (.int .i64 0), (.bool false), (.slice none 0 0), (.string ⟨#[]⟩), (.string ⟨#[]⟩), (.bool false)] := zro_of (v := (.agg #[(.string ⟨#[]⟩), (.int .i64 0), (.int .i64 0), (.int .i64 0), (.int .i64 0), (.bool false), (.slice none 0 0), (.string ⟨#[]⟩), (.string ⟨#[]⟩), (.bool false)])) (by kernel_rfl) rfl
instance : Fld Tryz.prog 156 0 0 := fld_of (by kernel_rfl)
instance : Plc Tryz.prog 156 [(0, 4)] := plc_of (by kernel_rfl)
instance : Zro Tryz.prog 156 [(.int .i64 0), (.pointer none), (.string ⟨#[]⟩), .nilIface] := zro_of (v := (.agg #[(.int .i64 0), (.pointer none), (.string ⟨#[]⟩), .nilIface])) (by kernel_rfl) rfl
instance : Fld Tryz.prog 162 0 0 := fld_of (by kernel_rfl)
instance : Plc Tryz.prog 162 [(0, 1), (1, 1)] := plc_of (by kernel_rfl)
instance : Zro Tryz.prog 162 [(.string ⟨#[]⟩), (.string ⟨#[]⟩)] := zro_of (v := (.agg #[(.string ⟨#[]⟩), (.string ⟨#[]⟩)])) (by kernel_rfl) rfl
instance : Scl Tryz.prog 164 := scl_of (by kernel_rfl)
instance : Und Tryz.prog 167 (.pointer 220) := ⟨by kernel_rfl⟩
instance : Scl Tryz.prog 167 := scl_of (by kernel_rfl)
instance : Zv Tryz.prog 167 (.pointer none) := zv_of (by kernel_rfl)
instance : PtrT Tryz.prog 167 := ptr_of (by kernel_rfl)
instance : CmpT Tryz.prog 167 := cmp_of (by kernel_rfl)
instance : Fld Tryz.prog 170 0 0 := fld_of (by kernel_rfl)
instance : Fld Tryz.prog 170 2 2 := fld_of (by kernel_rfl)
instance : Fld Tryz.prog 170 3 3 := fld_of (by kernel_rfl)
instance : Fld Tryz.prog 170 4 4 := fld_of (by kernel_rfl)
instance : Plc Tryz.prog 170 [(0, 1), (1, 1), (2, 1), (3, 1), (4, 1)] := plc_of (by kernel_rfl)
instance : Zro Tryz.prog 170 [(.pointer none), (.pointer none), (.pointer none), (.pointer none), (.bool false)] := zro_of (v := (.agg #[(.pointer none), (.pointer none), (.pointer none), (.pointer none), (.bool false)])) (by kernel_rfl) rfl
instance : Und Tryz.prog 171 (.slice 132) := ⟨by kernel_rfl⟩
instance : Scl Tryz.prog 171 := scl_of (by kernel_rfl)
instance : Zro Tryz.prog 171 [(.slice none 0 0)] := zro_of (v := (.slice none 0 0)) (by kernel_rfl) rfl
instance : Und Tryz.prog 172 (.pointer 258) := ⟨by kernel_rfl⟩
instance : Scl Tryz.prog 172 := scl_of (by kernel_rfl)
instance : Und Tryz.prog 173 (.pointer 228) := ⟨by kernel_rfl⟩
instance : Scl Tryz.prog 173 := scl_of (by kernel_rfl)
instance : Fld Tryz.prog 175 0 0 := fld_of (by kernel_rfl)
instance : Fld Tryz.prog 175 1 1 := fld_of (by kernel_rfl)
instance : Fld Tryz.prog 175 2 2 := fld_of (by kernel_rfl)
instance : Fld Tryz.prog 175 3 3 := fld_of (by kernel_rfl)
instance : Fld Tryz.prog 175 5 5 := fld_of (by kernel_rfl)
instance : Fld Tryz.prog 175 6 6 := fld_of (by kernel_rfl)
instance : Plc Tryz.prog 175 [(0, 1), (1, 1), (2, 1), (3, 1), (4, 1), (5, 1), (6, 1)] := plc_of (by kernel_rfl)
instance : Zro Tryz.prog 175 [(.pointer none), (.slice none 0 0), (.slice none 0 0), (.pointer none), (.bool false), (.bool false), (.pointer none)] := zro_of (v := (.agg #[(.pointer none), (.slice none 0 0), (.slice none 0 0), (.pointer none), (.bool false), (.bool false), (.pointer none)])) (by kernel_rfl) rfl
instance : Und Tryz.prog 179 (.int .u32) := ⟨by kernel_rfl⟩
instance : Fld Tryz.prog 185 1 1 := fld_of (by kernel_rfl)
instance : Fld Tryz.prog 185 2 2 := fld_of (by kernel_rfl)
instance : Fld Tryz.prog 185 3 3 := fld_of (by kernel_rfl)
instance : Fld Tryz.prog 185 4 5 := fld_of (by kernel_rfl)
instance : Fld Tryz.prog 185 5 6 := fld_of (by kernel_rfl)
instance : Fld Tryz.prog 185 6 7 := fld_of (by kernel_rfl)
instance : Fld Tryz.prog 185 8 9 := fld_of (by kernel_rfl)
instance : Plc Tryz.prog 185 [(0, 1), (1, 1), (2, 1), (3, 2), (5, 1), (6, 1), (7, 1), (8, 1), (9, 1)] := plc_of (by kernel_rfl)
instance : Zro Tryz.prog 185 [(.pointer none), (.pointer none), (.bool false), (.int .i32 0), (.int .u32 0), (.int .u32 0), .nilIface, .nilIface, (.bool false), (.slice none 0 0)] := zro_of (v := (.agg #[(.pointer none), (.pointer none), (.bool false), (.int .i32 0), (.int .u32 0), (.int .u32 0), .nilIface, .nilIface, (.bool false), (.slice none 0 0)])) (by kernel_rfl) rfl
instance : Und Tryz.prog 189 (.pointer 237) := ⟨by kernel_rfl⟩
instance : Zv Tryz.prog 189 (.pointer none) := zv_of (by kernel_rfl)
instance : PtrT Tryz.prog 189 := ptr_of (by kernel_rfl)
instance : CmpT Tryz.prog 189 := cmp_of (by kernel_rfl)
instance : Mth Tryz.prog 189 "Underlying" 281 := mth_of (by kernel_rfl)
instance : Und Tryz.prog 191 (.pointer 240) := ⟨by kernel_rfl⟩
instance : Zv Tryz.prog 191 (.pointer none) := zv_of (by kernel_rfl)
instance : PtrT Tryz.prog 191 := ptr_of (by kernel_rfl)
instance : CmpT Tryz.prog 191 := cmp_of (by kernel_rfl)
instance : Mth Tryz.prog 191 "Underlying" 283 := mth_of (by kernel_rfl)
instance : Scl Tryz.prog 193 := scl_of (by kernel_rfl)
instance : Fld Tryz.prog 201 0 0 := fld_of (by kernel_rfl)
instance : Plc Tryz.prog 201 [(0, 1)] := plc_of (by kernel_rfl)
instance : Zro Tryz.prog 201 [.nilIface] := zro_of (v := (.agg #[.nilIface])) (by kernel_rfl) rfl
instance : Fld Tryz.prog 204 0 0 := fld_of (by kernel_rfl)
instance : Plc Tryz.prog 204 [(0, 4), (4, 1), (5, 1)] := plc_of (by kernel_rfl)
instance : Zro Tryz.prog 204 [(.int .i64 0), (.pointer none), (.string ⟨#[]⟩), .nilIface, (.bool false), (.bool false)] := zro_of (v := (.agg #[(.int .i64 0), (.pointer none), (.string ⟨#[]⟩), .nilIface, (.bool false), (.bool false)])) (by kernel_rfl) rfl
instance : Und Tryz.prog 210 (.pointer 233) := ⟨by kernel_rfl⟩
instance : Scl Tryz.prog 210 := scl_of (by kernel_rfl)
instance : Fld Tryz.prog 214 0 0 := fld_of (by kernel_rfl)
instance : Plc Tryz.prog 214 [(0, 1)] := plc_of (by kernel_rfl)
instance : Zro Tryz.prog 214 [.nilIface] := zro_of (v := (.agg #[.nilIface])) (by kernel_rfl) rfl
instance : Fld Tryz.prog 220 0 0 := fld_of (by kernel_rfl)
instance : Plc Tryz.prog 220 [(0, 1)] := plc_of (by kernel_rfl)
instance : Zro Tryz.prog 220 [(.slice none 0 0)] := zro_of (v := (.agg #[(.slice none 0 0)])) (by kernel_rfl) rfl
instance : Und Tryz.prog 226 (.slice 259) := ⟨by kernel_rfl⟩
instance : Scl Tryz.prog 226 := scl_of (by kernel_rfl)
instance : Fld Tryz.prog 228 1 1 := fld_of (by kernel_rfl)
instance : Fld Tryz.prog 228 2 2 := fld_of (by kernel_rfl)
instance : Fld Tryz.prog 228 3 3 := fld_of (by kernel_rfl)
instance : Plc Tryz.prog 228 [(0, 1), (1, 1), (2, 1), (3, 1)] := plc_of (by kernel_rfl)
instance : Zro Tryz.prog 228 [(.bool false), (.slice none 0 0), (.slice none 0 0), (.bool false)] := zro_of (v := (.agg #[(.bool false), (.slice none 0 0), (.slice none 0 0), (.bool false)])) (by kernel_rfl) rfl
instance : Fld Tryz.prog 233 0 0 := fld_of (by kernel_rfl)
instance : Fld Tryz.prog 233 1 1 := fld_of (by kernel_rfl)
instance : Fld Tryz.prog 233 2 2 := fld_of (by kernel_rfl)
instance : Plc Tryz.prog 233 [(0, 1), (1, 1), (2, 1)] := plc_of (by kernel_rfl)
instance : Zro Tryz.prog 233 [(.pointer none), (.pointer none), (.pointer none)] := zro_of (v := (.agg #[(.pointer none), (.pointer none), (.pointer none)])) (by kernel_rfl) rfl
instance : Fld Tryz.prog 237 0 0 := fld_of (by kernel_rfl)
instance : Fld Tryz.prog 237 1 1 := fld_of (by kernel_rfl)
instance : Plc Tryz.prog 237 [(0, 1), (1, 1)] := plc_of (by kernel_rfl)
instance : Zro Tryz.prog 237 [.nilIface, .nilIface] := zro_of (v := (.agg #[.nilIface, .nilIface])) (by kernel_rfl) rfl
instance : Fld Tryz.prog 240 0 0 := fld_of (by kernel_rfl)
instance : Fld Tryz.prog 240 1 1 := fld_of (by kernel_rfl)
instance : Plc Tryz.prog 240 [(0, 1), (1, 1)] := plc_of (by kernel_rfl)
instance : Zro Tryz.prog 240 [(.int .i64 0), .nilIface] := zro_of (v := (.agg #[(.int .i64 0), .nilIface])) (by kernel_rfl) rfl
instance : Und Tryz.prog 246 (.pointer 103) := ⟨by kernel_rfl⟩
instance : PtrT Tryz.prog 246 := ptr_of (by kernel_rfl)
instance : Und Tryz.prog 249 (.slice 109) := ⟨by kernel_rfl⟩
instance : Und Tryz.prog 252 (.map 9 255) := ⟨by kernel_rfl⟩
instance : Scl Tryz.prog 252 := scl_of (by kernel_rfl)
instance : Zro Tryz.prog 252 [(.map none)] := zro_of (v := (.map none)) (by kernel_rfl) rfl
instance : Und Tryz.prog 253 (.map 132 100) := ⟨by kernel_rfl⟩
instance : Scl Tryz.prog 253 := scl_of (by kernel_rfl)
instance : Zro Tryz.prog 253 [(.map none)] := zro_of (v := (.map none)) (by kernel_rfl) rfl
instance : Und Tryz.prog 255 (.interface #[("Exported", 277), ("Id", 154), ("Name", 154), ("Pkg", 157), ("Pos", 395), ("Type", 77), ("kindred/pub/gotypes.sameId", 216), ("kindred/pub/gotypes.setType", 127)]) := ⟨by kernel_rfl⟩
instance : Zv Tryz.prog 255 .nilIface := zv_of (by kernel_rfl)
instance : Und Tryz.prog 259 (.pointer 261) := ⟨by kernel_rfl⟩
instance : Scl Tryz.prog 259 := scl_of (by kernel_rfl)
instance : Inf Tryz.prog 259 1 := inf_of (by kernel_rfl)
instance : Zro Tryz.prog 259 [(.pointer none)] := zro_of (v := (.pointer none)) (by kernel_rfl) rfl
instance : Fld Tryz.prog 261 1 1 := fld_of (by kernel_rfl)
instance : Zro Tryz.prog 261 [(.bool false), .nilIface] := zro_of (v := (.agg #[(.bool false), .nilIface])) (by kernel_rfl) rfl
instance : Fld Tryz.prog 266 0 0 := fld_of (by kernel_rfl)
instance : Fld Tryz.prog 266 1 1 := fld_of (by kernel_rfl)
instance : Fld Tryz.prog 266 2 2 := fld_of (by kernel_rfl)
instance : Fld Tryz.prog 266 3 3 := fld_of (by kernel_rfl)
instance : Zro Tryz.prog 266 [(.pointer none), (.pointer none), .nilIface, .nilIface] := zro_of (v := (.agg #[(.pointer none), (.pointer none), .nilIface, .nilIface])) (by kernel_rfl) rfl
instance : Und Tryz.prog 286 (.array 22 9) := ⟨by kernel_rfl⟩
instance : Zro Tryz.prog 286 [(.string ⟨#[]⟩), (.string ⟨#[]⟩), (.string ⟨#[]⟩), (.string ⟨#[]⟩), (.string ⟨#[]⟩), (.string ⟨#[]⟩), (.string ⟨#[]⟩), (.string ⟨#[]⟩), (.string ⟨#[]⟩), (.string ⟨#[]⟩), (.string ⟨#[]⟩), (.string ⟨#[]⟩), (.string ⟨#[]⟩), (.string ⟨#[]⟩), (.string ⟨#[]⟩), (.string ⟨#[]⟩), (.string ⟨#[]⟩), (.string ⟨#[]⟩), (.string ⟨#[]⟩), (.string ⟨#[]⟩), (.string ⟨#[]⟩), (.string ⟨#[]⟩)] := zro_of (v := (.agg #[(.string ⟨#[]⟩), (.string ⟨#[]⟩), (.string ⟨#[]⟩), (.string ⟨#[]⟩), (.string ⟨#[]⟩), (.string ⟨#[]⟩), (.string ⟨#[]⟩), (.string ⟨#[]⟩), (.string ⟨#[]⟩), (.string ⟨#[]⟩), (.string ⟨#[]⟩), (.string ⟨#[]⟩), (.string ⟨#[]⟩), (.string ⟨#[]⟩), (.string ⟨#[]⟩), (.string ⟨#[]⟩), (.string ⟨#[]⟩), (.string ⟨#[]⟩), (.string ⟨#[]⟩), (.string ⟨#[]⟩), (.string ⟨#[]⟩), (.string ⟨#[]⟩)])) (by kernel_rfl) rfl
instance : Und Tryz.prog 288 (.pointer 333) := ⟨by kernel_rfl⟩
instance : Und Tryz.prog 306 (.map 68 4) := ⟨by kernel_rfl⟩
instance : Und Tryz.prog 328 (.slice 4) := ⟨by kernel_rfl⟩
instance : Und Tryz.prog 331 (.slice 20) := ⟨by kernel_rfl⟩
instance : Plc Tryz.prog 333 [(0, 1), (1, 1)] := plc_of (by kernel_rfl)
instance : Zro Tryz.prog 333 [(.string ⟨#[]⟩), (.slice none 0 0)] := zro_of (v := (.agg #[(.string ⟨#[]⟩), (.slice none 0 0)])) (by kernel_rfl) rfl
instance : Und Tryz.prog 347 (.array 256 5) := ⟨by kernel_rfl⟩
instance : Byt Tryz.prog 4 := byt_of (by kernel_rfl)
instance : Byt Tryz.prog 9 := byt_of (by kernel_rfl)
instance : Byt Tryz.prog 26 := byt_of (by kernel_rfl)
instance : Byt Tryz.prog 51 := byt_of (by kernel_rfl)
instance : Byt Tryz.prog 68 := byt_of (by kernel_rfl)
instance : Byt Tryz.prog 80 := byt_of (by kernel_rfl)
instance : Byt Tryz.prog 108 := byt_of (by kernel_rfl)
instance : Byt Tryz.prog 132 := byt_of (by kernel_rfl)
instance : Byt Tryz.prog 148 := byt_of (by kernel_rfl)
instance : Byt Tryz.prog 259 := byt_of (by kernel_rfl)
instance : Fun Tryz.prog 15 := fun_of (by kernel_rfl)
instance : Fun Tryz.prog 16 := fun_of (by kernel_rfl)
instance : Fun Tryz.prog 19 := fun_of (by kernel_rfl)
instance : Fun Tryz.prog 20 := fun_of (by kernel_rfl)
instance : Fun Tryz.prog 21 := fun_of (by kernel_rfl)
instance : Fun Tryz.prog 22 := fun_of (by kernel_rfl)
instance : Fun Tryz.prog 27 := fun_of (by kernel_rfl)
instance : Fun Tryz.prog 30 := fun_of (by kernel_rfl)
instance : Fun Tryz.prog 31 := fun_of (by kernel_rfl)
instance : Fun Tryz.prog 32 := fun_of (by kernel_rfl)
instance : Fun Tryz.prog 35 := fun_of (by kernel_rfl)
instance : Fun Tryz.prog 36 := fun_of (by kernel_rfl)
instance : Fun Tryz.prog 37 := fun_of (by kernel_rfl)
instance : Fun Tryz.prog 38 := fun_of (by kernel_rfl)
instance : Fun Tryz.prog 39 := fun_of (by kernel_rfl)
instance : Fun Tryz.prog 40 := fun_of (by kernel_rfl)
instance : Fun Tryz.prog 41 := fun_of (by kernel_rfl)
instance : Fun Tryz.prog 42 := fun_of (by kernel_rfl)
instance : Fun Tryz.prog 44 := fun_of (by kernel_rfl)
instance : Fun Tryz.prog 45 := fun_of (by kernel_rfl)
instance : Fun Tryz.prog 46 := fun_of (by kernel_rfl)
instance : Fun Tryz.prog 53 := fun_of (by kernel_rfl)
instance : Fun Tryz.prog 56 := fun_of (by kernel_rfl)
instance : Fun Tryz.prog 57 := fun_of (by kernel_rfl)
instance : Fun Tryz.prog 58 := fun_of (by kernel_rfl)
instance : Fun Tryz.prog 59 := fun_of (by kernel_rfl)
instance : Fun Tryz.prog 60 := fun_of (by kernel_rfl)
instance : Fun Tryz.prog 61 := fun_of (by kernel_rfl)
instance : Fun Tryz.prog 62 := fun_of (by kernel_rfl)
instance : Fun Tryz.prog 63 := fun_of (by kernel_rfl)
instance : Fun Tryz.prog 64 := fun_of (by kernel_rfl)
instance : Fun Tryz.prog 65 := fun_of (by kernel_rfl)
instance : Fun Tryz.prog 66 := fun_of (by kernel_rfl)
instance : Fun Tryz.prog 67 := fun_of (by kernel_rfl)
instance : Fun Tryz.prog 69 := fun_of (by kernel_rfl)
instance : Fun Tryz.prog 71 := fun_of (by kernel_rfl)
instance : Fun Tryz.prog 74 := fun_of (by kernel_rfl)
instance : Fun Tryz.prog 75 := fun_of (by kernel_rfl)
instance : Fun Tryz.prog 76 := fun_of (by kernel_rfl)
instance : Fun Tryz.prog 77 := fun_of (by kernel_rfl)
instance : Fun Tryz.prog 78 := fun_of (by kernel_rfl)
instance : Fun Tryz.prog 79 := fun_of (by kernel_rfl)
instance : Fun Tryz.prog 80 := fun_of (by kernel_rfl)
instance : Fun Tryz.prog 81 := fun_of (by kernel_rfl)
instance : Fun Tryz.prog 82 := fun_of (by kernel_rfl)
instance : Fun Tryz.prog 83 := fun_of (by kernel_rfl)
instance : Fun Tryz.prog 84 := fun_of (by kernel_rfl)
instance : Fun Tryz.prog 85 := fun_of (by kernel_rfl)
instance : Fun Tryz.prog 86 := fun_of (by kernel_rfl)
instance : Fun Tryz.prog 87 := fun_of (by kernel_rfl)
instance : Fun Tryz.prog 88 := fun_of (by kernel_rfl)
instance : Fun Tryz.prog 91 := fun_of (by kernel_rfl)
instance : Fun Tryz.prog 92 := fun_of (by kernel_rfl)
instance : Fun Tryz.prog 93 := fun_of (by kernel_rfl)
instance : Fun Tryz.prog 94 := fun_of (by kernel_rfl)
instance : Fun Tryz.prog 95 := fun_of (by kernel_rfl)
instance : Fun Tryz.prog 96 := fun_of (by kernel_rfl)
instance : Fun Tryz.prog 97 := fun_of (by kernel_rfl)
instance : Fun Tryz.prog 102 := fun_of (by kernel_rfl)
instance : Fun Tryz.prog 103 := fun_of (by kernel_rfl)
instance : Fun Tryz.prog 104 := fun_of (by kernel_rfl)
instance : Fun Tryz.prog 105 := fun_of (by kernel_rfl)
instance : Fun Tryz.prog 106 := fun_of (by kernel_rfl)
instance : Fun Tryz.prog 107 := fun_of (by kernel_rfl)
instance : Fun Tryz.prog 108 := fun_of (by kernel_rfl)
instance : Fun Tryz.prog 109 := fun_of (by kernel_rfl)
instance : Fun Tryz.prog 110 := fun_of (by kernel_rfl)
instance : Fun Tryz.prog 111 := fun_of (by kernel_rfl)
instance : Fun Tryz.prog 112 := fun_of (by kernel_rfl)
instance : Fun Tryz.prog 113 := fun_of (by kernel_rfl)
instance : Fun Tryz.prog 114 := fun_of (by kernel_rfl)
instance : Fun Tryz.prog 115 := fun_of (by kernel_rfl)
instance : Fun Tryz.prog 116 := fun_of (by kernel_rfl)
instance : Fun Tryz.prog 117 := fun_of (by kernel_rfl)
instance : Fun Tryz.prog 118 := fun_of (by kernel_rfl)
instance : Fun Tryz.prog 119 := fun_of (by kernel_rfl)
instance : Fun Tryz.prog 120 := fun_of (by kernel_rfl)
instance : Fun Tryz.prog 121 := fun_of (by kernel_rfl)
instance : Fun Tryz.prog 123 := fun_of (by kernel_rfl)
instance : Fun Tryz.prog 124 := fun_of (by kernel_rfl)
instance : Fun Tryz.prog 125 := fun_of (by kernel_rfl)
instance : Fun Tryz.prog 126 := fun_of (by kernel_rfl)
instance : Fun Tryz.prog 127 := fun_of (by kernel_rfl)
instance : Fun Tryz.prog 128 := fun_of (by kernel_rfl)
instance : Fun Tryz.prog 129 := fun_of (by kernel_rfl)
instance : Fun Tryz.prog 130 := fun_of (by kernel_rfl)
instance : Fun Tryz.prog 132 := fun_of (by kernel_rfl)
instance : Fun Tryz.prog 133 := fun_of (by kernel_rfl)
instance : Fun Tryz.prog 134 := fun_of (by kernel_rfl)
instance : Fun Tryz.prog 136 := fun_of (by kernel_rfl)
instance : Fun Tryz.prog 137 := fun_of (by kernel_rfl)
instance : Fun Tryz.prog 138 := fun_of (by kernel_rfl)
instance : Fun Tryz.prog 139 := fun_of (by kernel_rfl)
instance : Fun Tryz.prog 140 := fun_of (by kernel_rfl)
instance : Fun Tryz.prog 141 := fun_of (by kernel_rfl)
instance : Fun Tryz.prog 142 := fun_of (by kernel_rfl)
instance : Fun Tryz.prog 143 := fun_of (by kernel_rfl)
instance : Fun Tryz.prog 144 := fun_of (by kernel_rfl)
instance : Fun Tryz.prog 145 := fun_of (by kernel_rfl)
instance : Fun Tryz.prog 146 := fun_of (by kernel_rfl)
instance : Fun Tryz.prog 147 := fun_of (by kernel_rfl)
instance : Fun Tryz.prog 148 := fun_of (by kernel_rfl)
instance : Fun Tryz.prog 149 := fun_of (by kernel_rfl)
instance : Fun Tryz.prog 150 := fun_of (by kernel_rfl)
instance : Fun Tryz.prog 151 := fun_of (by kernel_rfl)
instance : Fun Tryz.prog 152 := fun_of (by kernel_rfl)
instance : Fun Tryz.prog 153 := fun_of (by kernel_rfl)
instance : Fun Tryz.prog 154 := fun_of (by kernel_rfl)
instance : Fun Tryz.prog 158 := fun_of (by kernel_rfl)
instance : Fun Tryz.prog 160 := fun_of (by kernel_rfl)
instance : Fun Tryz.prog 161 := fun_of (by kernel_rfl)
instance : Fun Tryz.prog 162 := fun_of (by kernel_rfl)
instance : Fun Tryz.prog 165 := fun_of (by kernel_rfl)
instance : Fun Tryz.prog 167 := fun_of (by kernel_rfl)
instance : Fun Tryz.prog 168 := fun_of (by kernel_rfl)
instance : Fun Tryz.prog 169 := fun_of (by kernel_rfl)
instance : Fun Tryz.prog 170 := fun_of (by kernel_rfl)
instance : Fun Tryz.prog 172 := fun_of (by kernel_rfl)
instance : Fun Tryz.prog 173 := fun_of (by kernel_rfl)
instance : Fun Tryz.prog 184 := fun_of (by kernel_rfl)
instance : Fun Tryz.prog 187 := fun_of (by kernel_rfl)
instance : Fun Tryz.prog 188 := fun_of (by kernel_rfl)
instance : Fun Tryz.prog 189 := fun_of (by kernel_rfl)
instance : Fun Tryz.prog 190 := fun_of (by kernel_rfl)
instance : Fun Tryz.prog 191 := fun_of (by kernel_rfl)
instance : Fun Tryz.prog 192 := fun_of (by kernel_rfl)
instance : Fun Tryz.prog 193 := fun_of (by kernel_rfl)
instance : Fun Tryz.prog 198 := fun_of (by kernel_rfl)
instance : Fun Tryz.prog 210 := fun_of (by kernel_rfl)
instance : Fun Tryz.prog 212 := fun_of (by kernel_rfl)
instance : Fun Tryz.prog 226 := fun_of (by kernel_rfl)
instance : Fun Tryz.prog 234 := fun_of (by kernel_rfl)
instance : Fun Tryz.prog 255 := fun_of (by kernel_rfl)
instance : Fun Tryz.prog 258 := fun_of (by kernel_rfl)
instance : Fun Tryz.prog 261 := fun_of (by kernel_rfl)
instance : Fun Tryz.prog 263 := fun_of (by kernel_rfl)
instance : Fun Tryz.prog 265 := fun_of (by kernel_rfl)
instance : Fun Tryz.prog 269 := fun_of (by kernel_rfl)
instance : Fun Tryz.prog 271 := fun_of (by kernel_rfl)
instance : Fun Tryz.prog 273 := fun_of (by kernel_rfl)
instance : Fun Tryz.prog 275 := fun_of (by kernel_rfl)
instance : Fun Tryz.prog 276 := fun_of (by kernel_rfl)
instance : Fun Tryz.prog 281 := fun_of (by kernel_rfl)
instance : Fun Tryz.prog 283 := fun_of (by kernel_rfl)
end Go.Proofs.YtpiegpegjbmlkaaGreatDoor
namespace Go.Proofs.YtpiegpegjbmlkaaGreatDoor
open Go Go.Kd

def us : List UInt8 := [95]
def letter (c : UInt8) : Bool := decide (97 ≤ (c ||| 32).toNat) && decide ((c ||| 32).toNat ≤ 122)
def digit (c : UInt8) : Bool := decide (48 ≤ c.toNat) && decide (c.toNat ≤ 57)
structure Ident (s : List UInt8) : Prop where
  ne : s ≠ []
  at_ : s = us ∨ ∀ (i : Nat) c, s[i]? = some c → letter c = true ∨ (i ≠ 0 ∧ digit c = true)
structure Uniq (l : List (List UInt8)) : Prop where
  id : ∀ (i : Nat) s, l[i]? = some s → Ident s
  un : ∀ (i j : Nat) s, i < j → l[i]? = some s → l[j]? = some s → s = us
def names (l : List Ty) : List (List UInt8) := l.map fun t => t.name.toList
def basicNm : List (List UInt8) := [[98, 111, 111, 108], [105, 110, 116], [105, 110, 116, 56], [105, 110, 116, 49, 54], [105, 110, 116, 51, 50], [105, 110, 116, 54, 52], [117, 105, 110, 116], [117, 105, 110, 116, 56],
  [117, 105, 110, 116, 49, 54], [117, 105, 110, 116, 51, 50], [117, 105, 110, 116, 54, 52], [117, 105, 110, 116, 112, 116, 114], [102, 108, 111, 97, 116, 51, 50], [102, 108, 111, 97, 116, 54, 52],
  [99, 111, 109, 112, 108, 101, 120, 54, 52], [99, 111, 109, 112, 108, 101, 120, 49, 50, 56], [115, 116, 114, 105, 110, 103], [80, 111, 105, 110, 116, 101, 114], [98, 121, 116, 101], [114, 117, 110, 101], [101, 114, 114, 111, 114], [97, 110, 121]]
def typeNm (D : List De) (t : Ty) : List UInt8 := if t.kind = 1 then (match D[t.n.toNat]? with | some e => e.name.toList | none => []) else if t.kind = 0 then basicNm.getD t.n.toNat [] else []
def isUns (u : Ty) : Prop := u.kind = 0 ∧ u.n = 17
/-- what a struct may embed -/
structure MayEmb (D : List De) (t e : Ty) : Prop where
  el : (t.kind = 2 ∧ t.elems[0]? = some e) ∨ (t.kind ≠ 2 ∧ e = t)
  kd : e.kind = 0 ∨ e.kind = 1
  nm : t.name.toList = typeNm D e
  np : (underT D e).kind ≠ 2
  nu : ¬ isUns (underT D e)
  ni : t.kind = 2 → (underT D e).kind ≠ 9

/-- comparable or not -/
inductive Cmp (D : List De) : Ty → Bool → Prop
  | no (t : Ty) : (underT D t).kind = 3 ∨ (underT D t).kind = 5 ∨ (underT D t).kind = 8 → Cmp D t false
  | yes (t : Ty) : (underT D t).kind = 0 ∨ (underT D t).kind = 1 ∨ (underT D t).kind = 2 ∨ (underT D t).kind = 6 ∨ (underT D t).kind = 9 → Cmp D t true
  | all (t : Ty) (bs : List Bool) : (underT D t).kind = 4 ∨ (underT D t).kind = 7 → bs.length = (underT D t).elems.length →
      (∀ (i : Nat) e b, (underT D t).elems[i]? = some e → bs[i]? = some b → Cmp D e b) → Cmp D t (bs.all id)

structure Cons (D : List De) (t : Ty) (all : List Mt) : Prop where
  im : IM D t all
  ifc : ∀ (i : Nat) e, t.elems[i]? = some e → ¬ (i : Int) < t.count → (underT D e).kind = 9
  same : ∀ (i : Nat) e, t.elems[i]? = some e → ¬ (i : Int) < t.count → ∃ ms, IM D e ms ∧ ∀ m ∈ ms, ∀ n, findM all m.name.toList m.pkg = some n → ∃ x y, Exp D m.fn x ∧ Exp D n.fn y ∧ idX true x y = true
def unnamedT (l : List Ty) : Prop := ∀ t ∈ l, t.name.toList = []
structure LegalAt (D : List De) (t : Ty) : Prop where
  map : t.kind = 5 → ∀ k, t.elems[0]? = some k → Cmp D k true
  emb : t.kind = 7 → ∀ (i : Nat) e, t.elems[i]? = some e → e.emb = true → ∃ b, MayEmb D e b
  fld : t.kind = 7 → Uniq (names t.elems)
  par : t.kind = 8 → unnamedT (t.elems.take t.count.toNat) ∨ Uniq (names (t.elems.take t.count.toNat))
  res : t.kind = 8 → unnamedT (t.elems.drop t.count.toNat) ∨ Uniq (names (t.elems.drop t.count.toNat))
  mth : t.kind = 9 → ∀ (i : Nat) e, t.elems[i]? = some e → (i : Int) < t.count → e.name.toList ≠ us
  unq : t.kind = 9 → Uniq (names (t.elems.take t.count.toNat))
  con : t.kind = 9 → ∃ all, Cons D t all
inductive Legal (D : List De) : Ty → Prop
  | mk (t : Ty) : (∀ (i : Nat) e, t.elems[i]? = some e → Legal D e) → LegalAt D t → Legal D t
theorem Legal.el {D : List De} {t : Ty} (h : Legal D t) : ∀ (i : Nat) e, t.elems[i]? = some e → Legal D e := by cases h; assumption
theorem Legal.here {D : List De} {t : Ty} (h : Legal D t) : LegalAt D t := by cases h; assumption

/-- methods may be declared -/
structure MayHave (D : List De) (x : De) : Prop where
  fn : ∀ m ∈ x.ms, m.fn.name.toList ≠ us ∧ m.fn.kind = 8 ∧ Shaped D D.length false m.fn ∧ Legal D m.fn
  unq : Uniq (names (x.ms.map (·.fn)) ++ (if (underT D x.ty).kind = 7 then names (underT D x.ty).elems else []))
  kind : x.ms ≠ [] → x.al = false ∧ (underT D x.ty).kind ≠ 2 ∧ (underT D x.ty).kind ≠ 9 ∧ ¬ isUns (underT D x.ty)
structure ValidD (D : List De) : Prop where
  sh : ShapedD D
  nm : ∀ (i : Nat) e, D[i]? = some e → Ident e.name.toList ∧ e.name.toList ≠ us
  pkg : ∀ (i : Nat) e, D[i]? = some e → e.pkg = 0 ∨ e.pkg = 1
  lg : ∀ (i : Nat) e, D[i]? = some e → Legal D e.ty
  ms : ∀ (i : Nat) e, D[i]? = some e → MayHave D e
structure ValidT (D : List De) (t : Ty) : Prop where
  sh : Shaped D D.length true t
  lg : Legal D t

/-! ### Determined -/
theorem lists_eq {α : Type} : ∀ (l l' : List α), l.length = l'.length → (∀ (i : Nat) a b, l[i]? = some a → l'[i]? = some b → a = b) → l = l'
  | [], [], _, _ => rfl
  | [], _ :: _, h, _ => by simp at h
  | _ :: _, [], h, _ => by simp at h
  | a :: l, b :: l', h, h2 => by
    rw [h2 0 a b rfl rfl, lists_eq l l' (by simpa using h) fun i a b ha hb => h2 (i + 1) a b (by simpa using ha) (by simpa using hb)]
theorem IM.det {D : List De} {t : Ty} {ms : List Mt} (h : IM D t ms) : ∀ {ms' : List Mt}, IM D t ms' → ms = ms' := by
  induction h with
  | no t hk =>
    intro ms' h'
    cases h' with
    | no => rfl
    | yes _ L h9 => exact absurd h9 hk
  | yes t L h9 hL h1 h2 ih =>
    intro ms' h'
    cases h' with
    | no _ hk => exact absurd h9 hk
    | yes _ L' _ hL' h1' h2' =>
      rw [lists_eq L L' (hL.trans hL'.symm) fun i a b ha hb => ?_]
      have hlt : i < (underT D t).elems.length := by rw [← hL]; exact (List.getElem?_eq_some_iff.1 ha).1
      have he := List.getElem?_eq_getElem hlt
      by_cases hc : (i : Int) < (underT D t).count
      · rw [h1 i _ a he ha hc, h1' i _ b he hb hc]
      · exact ih i _ a he ha hc (h2' i _ b he hb hc)
theorem Exp.det {D : List De} {t : Ty} {x : X} (h : Exp D t x) : ∀ {y : X}, Exp D t y → x = y := by
  induction h with
  | leaf t hk =>
    intro y h'
    cases h' with
    | leaf => rfl
    | plain _ es h2 h8 => omega
    | iface _ ms es h9 => omega
  | plain t es h2 h8 hl he ih =>
    intro y h'
    cases h' with
    | leaf _ hk => omega
    | plain _ es' h2' h8' hl' he' =>
      rw [lists_eq es es' (hl.trans hl'.symm) fun i a b ha hb => ?_]
      have hlt : i < (unaliasT D t).elems.length := by rw [← hl]; exact (List.getElem?_eq_some_iff.1 ha).1
      have hel := List.getElem?_eq_getElem hlt
      exact ih i _ a hel ha (he' i _ b hel hb)
    | iface _ ms es h9 => omega
  | iface t ms es h9 him hl he ih =>
    intro y h'
    cases h' with
    | leaf _ hk => omega
    | plain _ es' h2' h8' => omega
    | iface _ ms' es' _ him' hl' he' =>
      have hms := him.det him'
      subst hms
      rw [lists_eq es es' (hl.trans hl'.symm) fun i a b ha hb => ?_]
      have hlt : i < ms.length := by rw [← hl]; exact (List.getElem?_eq_some_iff.1 ha).1
      have hel := List.getElem?_eq_getElem hlt
      exact ih i _ a hel ha (he' i _ b hel hb)

theorem cmp_key {D : List De} (t b : Ty) (hl : 0 ≤ b.kind) (hh : b.kind ≤ 9) (hb : underT D t = errN (norm b)) (hel : ∀ (j : Nat) e, b.elems[j]? = some e → b.kind = 4 ∨ b.kind = 7 → ∃ c, Cmp D e c) : ∃ c, Cmp D t c := by
  have fin : ∀ u, underT D t = u → (u.kind = 4 ∨ u.kind = 7 → u = b) → 0 ≤ u.kind → u.kind ≤ 9 → ∃ c, Cmp D t c := by
    intro u hu hub h0 h9
    subst hu
    by_cases h1 : (underT D t).kind = 3 ∨ (underT D t).kind = 5 ∨ (underT D t).kind = 8
    · exact ⟨_, .no t h1⟩
    · by_cases h2 : (underT D t).kind = 4 ∨ (underT D t).kind = 7
      · have := hub h2
        obtain ⟨bs, h3, h4⟩ := choose_list (fun (_ : Nat) e c => Cmp D e c) (underT D t).elems fun j e he => hel j e (by rw [← this]; exact he) (by rw [← this]; exact h2)
        exact ⟨_, .all t bs h2 h3 h4⟩
      · exact ⟨_, .yes t (by omega)⟩
  rcases norm_cases b with ⟨h1, h2⟩ | ⟨h1, h2, _⟩ | ⟨_, _, h⟩
  · rw [h2, errN_kind_ne h1] at hb
    exact fin b hb (fun _ => rfl) hl hh
  · refine fin _ hb (fun h => ?_) ?_ ?_ <;> (unfold errN at *; split <;> rename_i hc <;> simp_all [errT, Ty.kind])
  · rw [h] at hb
    exact fin anyT hb (fun h => by simp [anyT, Ty.kind] at h) (by decide) (by decide)
/-- comparable or not: one of the two -/
theorem exists_cmp {D : List De} (hD : ShapedD D) : ∀ (i : Nat), i ≤ D.length → ∀ (v : Bool) (t : Ty), Shaped D i v t → v = true → ∃ b, Cmp D t b := by
  intro i
  induction i using Nat.strongRecOn with
  | _ i ih =>
  intro hi v t hs
  induction hs with
  | mk v t hsh hel ihel =>
  intro hv
  rcases under_cases hD hi (.mk v t hsh hel) with ⟨h1, h2, h3⟩ | ⟨j, e, h1, h2, h3, h4, h5, h6⟩
  · exact cmp_key t t hsh.lo hsh.hi h3 fun j e he hk => ihel j e he (by rcases hk with hk | hk <;> simp [holdsT, hk, hv])
  · have hs' := hD j e h4
    exact cmp_key t e.ty hs'.shape.lo hs'.shape.hi h6 fun k e' he' hk => ih j (h3 hv) (by omega) _ e' (hs'.el k e' he') (by rcases hk with hk | hk <;> simp [holdsT, hk])
/-- at any place -/
theorem good_cmp {D : List De} (hD : OkD D) {t : Ty} (h : Good D t) : ∃ b, Cmp D t b := by
  obtain ⟨i, v, hi, hs⟩ := h.sh
  clear h
  induction hs with
  | mk v t hsh hel ihel =>
  rcases under_cases hD.sh hi (.mk v t hsh hel) with ⟨h1, h2, h3⟩ | ⟨j, e, h1, h2, h3, h4, h5, h6⟩
  · exact cmp_key t t hsh.lo hsh.hi h3 fun j e he _ => ihel j e he
  · have hs' := hD.sh j e h4
    exact cmp_key t e.ty hs'.shape.lo hs'.shape.hi h6 fun k e' he' hk => exists_cmp hD.sh j (by omega) _ e' (hs'.el k e' he') (by rcases hk with hk | hk <;> simp [holdsT, hk])

theorem IM_good {D : List De} (hD : OkD D) {t : Ty} {ms : List Mt} (h : IM D t ms) : Good D t → ∀ m ∈ ms, Good D m.fn := by
  induction h with
  | no => intro _ m hm; cases hm
  | yes t L hk hL h1 h2 ih =>
    intro hG
    have hGu := hG.under hD
    refine mem_merge _ _ _ _ (by simp) fun l hl m hm => ?_
    obtain ⟨j, hj⟩ := List.getElem?_of_mem hl
    have hlt : j < (underT D t).elems.length := by rw [← hL]; exact (List.getElem?_eq_some_iff.1 hj).1
    have he := List.getElem?_eq_getElem hlt
    by_cases hc : (j : Int) < (underT D t).count
    · rw [h1 j _ l he hj hc] at hm
      simp at hm
      subst hm
      exact hGu.el he
    · exact ih j _ l he hj hc (hGu.el he) m hm
/-- the two finds -/
theorem find_rel : ∀ (ms : List Mt) (es : List X) (s : List UInt8) (p : Int), es.length = ms.length →
    (findM ms s p = none ∧ findX (anM ms) es s p = none) ∨ ∃ (j : Nat) (n : Mt) (y : X), findM ms s p = some n ∧ ms[j]? = some n ∧ es[j]? = some y ∧ findX (anM ms) es s p = some y
  | [], es, s, p, _ => .inl ⟨rfl, by simp [anM, findX]⟩
  | m :: ms, [], s, p, h => by simp at h
  | m :: ms, y :: es, s, p, h => by
    cases hs : sameNm m.name.toList m.pkg s p with
    | true => exact .inr ⟨0, m, y, by simp [findM, hs], rfl, rfl, by simp [anM, findX, hs]⟩
    | false =>
      rcases find_rel ms es s p (by simpa using h) with ⟨h1, h2⟩ | ⟨j, n, y', h1, h2, h3, h4⟩
      · exact .inl ⟨by simpa [findM, hs] using h1, by simpa [anM, findX, hs] using h2⟩
      · exact .inr ⟨j + 1, n, y', by simpa [findM, hs] using h1, by simpa using h2, by simpa using h3, by simpa [anM, findX, hs] using h4⟩
end Go.Proofs.YtpiegpegjbmlkaaGreatDoor
namespace Go.Proofs.YtpiegpegjbmlkaaGreatDoor
open Go Go.Kd
set_option maxRecDepth 100000

theorem E0_list : (⟨#[]⟩ : ByteArray).toList = [] := by rw [Lib.toList_data]

theorem c_isExported (nm : ByteArray) (w : World) :
    Calls Tryz.prog 169 #[.string nm] w (Ret fun r w' => r = .bool (expo nm.toList) ∧ w = w') := by
  refine W.enter (args := [.string nm]) Tryz.func169 rfl Tryz.ntmps169 rfl rfl ?_
  refine zst ?_
  cases hl : nm.toList with
  | nil =>
    rw [E0_list, show ([] == ([] : List UInt8)) = true from rfl]
    refine zst ?_
    exact fin1 (.inl rfl) rfl rfl ⟨rfl, rfl⟩
  | cons c l =>
    rw [E0_list, show (c :: l == []) = false from rfl]
    refine zst ?_
    refine WU.yld rfl rfl rfl (yld_index_str (i := 0) rfl rfl (by rw [hl]; rfl)) ?_
    refine zst ?_
    cases h1 : decide ((c.toNat : Int) ≥ 65)
    · refine zst ?_
      exact fin1 (.inl rfl) rfl rfl ⟨by simp at h1; simp [expo]; omega, rfl⟩
    · refine zst ?_
      refine WU.yld rfl rfl rfl (yld_index_str (i := 0) rfl rfl (by rw [hl]; rfl)) ?_
      refine zst ?_
      refine fin1 (.inl rfl) rfl rfl ⟨congrArg Value.bool ?_, rfl⟩
      have h1' : 65 ≤ c.toNat := by simp at h1; omega
      by_cases h2 : c.toNat ≤ 90
      · simp [expo, h1', h2]; omega
      · simp [expo, h2]; omega

theorem c_sameName (s s' : ByteArray) (p p' : Int) (w : World) :
    Calls Tryz.prog 142 #[.string s, .int .i64 p, .string s', .int .i64 p'] w (Ret fun r w' => r = .bool (sameNm s.toList p s'.toList p') ∧ w = w') := by
  refine W.enter (args := [.string s, .int .i64 p, .string s', .int .i64 p']) Tryz.func142 rfl Tryz.ntmps142 rfl rfl ?_
  refine zst ?_
  unfold sameNm
  cases h1 : (s.toList == s'.toList)
  · refine zst ?_
    exact fin1 (.inl rfl) rfl rfl ⟨rfl, rfl⟩
  refine zst ?_
  cases h2 : (p == p')
  · refine zst ?_
    refine WU.stp rfl rfl rfl (stp_call rfl (c_isExported s w)) ?_
    rintro _ _ ⟨rfl, rfl⟩
    refine zst ?_
    exact fin1 (.inl rfl) rfl rfl ⟨rfl, rfl⟩
  · refine zst ?_
    exact fin1 (.inl rfl) rfl rfl ⟨rfl, rfl⟩

theorem c_anyType (w : World) : Calls Tryz.prog 130 #[] w (Ret fun r w' => r = tyv 9 0 0 false (.slice none 0 0) eB eB false ∧ Ext w w') := by
  refine W.enter (args := []) Tryz.func130 rfl Tryz.ntmps130 rfl rfl ?_
  refine zst ?_
  refine WU.stp rfl rfl rfl stp_alloc ?_
  rintro _ w1 ⟨b1, rfl, n1⟩
  refine zst ?_
  refine WU.stp0 rfl rfl (stp_store_whole rfl rfl rfl rfl) ?_
  rintro _ w2 u2
  refine zst ?_
  exact finc (.inl rfl) rfl rfl ⟨rfl, (u2.ofNew n1).ext⟩

theorem c_errorInterface (w : World) : Calls Tryz.prog 88 #[] w (Ret fun r w' => ∃ a cp, r = .agg (tyc errT a cp).toArray ∧ TysV w' (fun b => w.heap.size ≤ b ∧ b < w'.heap.size) a cp errT.elems ∧ Ext w w') := by
  refine W.enter (args := []) Tryz.func88 rfl Tryz.ntmps88 rfl rfl ?_
  refine zst ?_
  refine WU.stp rfl rfl rfl stp_alloc ?_
  rintro _ w1 ⟨b1, rfl, n1⟩
  refine zst ?_
  refine WU.stp rfl rfl rfl (stp_buildSlice rfl rfl rfl rfl rfl) ?_
  rintro _ w2 ⟨b2, rfl, n2⟩
  refine zst ?_
  refine WU.stp rfl rfl rfl (stp_buildSlice rfl rfl rfl rfl rfl) ?_
  rintro _ w3 ⟨b3, rfl, n3⟩
  refine zst ?_
  refine WU.stp0 rfl rfl (stp_store_whole rfl rfl rfl rfl) ?_
  rintro _ w4 u4
  refine zst ?_
  have e2 := n2.num
  have e3 := n3.num
  have e1 := n1.num
  have h1 := n1.size
  have h2 := n2.size
  have k2 : Has w4 b2 _ := u4.keep (n2.has.ext' n3.ext) (by omega)
  have k3 : Has w4 b3 _ := u4.keep n3.has (by omega)
  have lt2 := k2.lt
  have lt3 := k3.lt
  have vs : TyV w4 (fun b => w.heap.size ≤ b ∧ b < w4.heap.size) (tyl 0 16 0 false (.slice none 0 0) eB eB false) vstr :=
    .mk 0 16 0 false [] eB eB false none 0 (fun _ => []) (fun i e h => by simp at h) (fun i h => by simp at h) (Nat.le_refl _)
  have vf : TyV w4 (fun b => w.heap.size ≤ b ∧ b < w4.heap.size) (tyl 8 0 0 false (.slice (some ⟨b2, 0, none⟩) 1 1) ⟨#[69, 114, 114, 111, 114]⟩ eB false) errFn :=
    .mk 8 0 0 false [vstr] ⟨#[69, 114, 114, 111, 114]⟩ eB false _ 1 (fun _ => tyl 0 16 0 false (.slice none 0 0) eB eB false) (fun i e h => by
      match i with
      | 0 => simp at h; subst h; exact vs
      | i + 1 => simp at h) (fun i h => by
      match i with
      | 0 => exact ⟨b2, 0, rfl, by omega, Cells.has k2⟩
      | i + 1 => simp at h) (Nat.le_refl _)
  refine finc (.inl rfl) rfl rfl ⟨some ⟨b3, 0, none⟩, 1, rfl, ⟨Nat.le_refl _, fun _ => tyl 8 0 0 false (.slice (some ⟨b2, 0, none⟩) 1 1) ⟨#[69, 114, 114, 111, 114]⟩ eB false, fun i h => ?_, fun i e h => ?_⟩, u4.ext (n1.ext.trans (n2.ext.trans n3.ext)) (by omega)⟩
  · match i with
    | 0 => exact ⟨b3, 0, rfl, by omega, Cells.has k3⟩
    | i + 1 => simp [errT, Ty.elems] at h
  · match i with
    | 0 => simp [errT, Ty.elems] at h; subst h; exact vf
    | i + 1 => simp [errT, Ty.elems] at h
end Go.Proofs.YtpiegpegjbmlkaaGreatDoor

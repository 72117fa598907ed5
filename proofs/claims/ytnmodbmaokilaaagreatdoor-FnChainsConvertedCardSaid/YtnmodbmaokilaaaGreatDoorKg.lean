/- The walk kit, part g: more operations. -/
import Derived.Test.YtnmodbmaokilaaaGreatDoorKd
namespace Go.Kd
variable {P : Program} {e : Env} {w : World} {d : Option Tmp} {ty t t2 : TypeId} {pos : String} {aft : Array Edge} {g : Option (Nat × Bool)} {x y : Operand}

theorem yld_rem_in {k : IntKind} {a b : Int} (hx : ev e x = some (.int k a)) (hy : ev e y = some (.int k b)) (ha : 0 ≤ a) (hb : 0 < b) :
    Yld P e ⟨d, .binOp .rem t x y t2, ty, pos, aft, g⟩ (.int k (a % b)) w := by
  have := yld_rem (P := P) (w := w) (d := d) (t := t) (t2 := t2) (ty := ty) (pos := pos) (aft := aft) (g := g) hx hy (by omega)
  rwa [Int.tmod_eq_emod_of_nonneg ha] at this
theorem yld_quo_in {a b : Int} (hx : ev e x = some (.int .i64 a)) (hy : ev e y = some (.int .i64 b)) (ha : 0 ≤ a ∧ a ≤ 9223372036854775807) (hb : 0 < b) :
    Yld P e ⟨d, .binOp .quo t x y t2, ty, pos, aft, g⟩ (.int .i64 (a / b)) w := by
  have := yld_quo (P := P) (w := w) (d := d) (t := t) (t2 := t2) (ty := ty) (pos := pos) (aft := aft) (g := g) hx hy (by omega)
  have h1 := Int.ediv_nonneg ha.1 (Int.le_of_lt hb)
  have h2 : a / b ≤ a := Int.ediv_le_self b ha.1
  rwa [Int.tdiv_eq_ediv_of_nonneg ha.1, IntWalk.i64_in _ (by omega)] at this

theorem yld_load_c {b i : Nat} {v : Value} [h : Scl P t] (hx : ev e x = some (.pointer (some ⟨b, i, none⟩))) (hc : w.cell? ⟨b, i, none⟩ = some v) :
    Yld P e ⟨d, .load t x, ty, pos, aft, g⟩ v w := ⟨fun ρ hρ w' hw => by
  obtain ⟨D, j, h1, h2, h3, h4⟩ := h.at_
  have hb : b < w.heap.size := by
    unfold World.cell? at hc
    cases hh : w.heap[b]? with
    | none => simp [hh] at hc
    | some o => exact (Array.getElem?_eq_some_iff.1 hh).1
  have hc' : w'.cell? ⟨b, i, none⟩ = some v := by rw [hw.below.cell (p := ⟨b, i, none⟩) hb]; exact hc
  simp only [execOp, hρ x _ hx, Instr.loadAt, Instr.sureAddr, loadVar, isAgg]
  cases D <;> first
    | (simp at h2; done)
    | (simp [underlying, program, h1, Sem.run, bind, Sem.bind, pure, load, hc'])⟩

theorem Ext.cell {w w' : World} (x : Ext w w') {b i : Nat} {v : Value} (hc : w.cell? ⟨b, i, none⟩ = some v) : w'.cell? ⟨b, i, none⟩ = some v := by
  have hb : b < w.heap.size := by
    unfold World.cell? at hc
    cases hh : w.heap[b]? with
    | none => simp [hh] at hc
    | some o => exact (Array.getElem?_eq_some_iff.1 hh).1
  rw [x.below.cell (p := ⟨b, i, none⟩) hb]; exact hc

/-- a slice of ints, as it came in -/
def Ints (w : World) (sl : Value) (l : List Int) : Prop :=
  (∃ c, sl = .slice none 0 c ∧ l = []) ∨ ∃ b o c, sl = .slice (some ⟨b, o, none⟩) l.length c ∧ ∀ i v, l[i]? = some v → w.cell? ⟨b, o + i, none⟩ = some (.int .i64 v)

theorem Ints.ext {w w' : World} {sl : Value} {l : List Int} (x : Ext w w') (h : Ints w sl l) : Ints w' sl l := by
  rcases h with h | ⟨b, o, c, h1, h2⟩
  · exact .inl h
  · exact .inr ⟨b, o, c, h1, fun i v hv => x.cell (h2 i v hv)⟩
theorem Ints.shape {w : World} {sl : Value} {l : List Int} (h : Ints w sl l) : ∃ a c, sl = .slice a l.length c := by
  rcases h with ⟨c, h1, h2⟩ | ⟨b, o, c, h1, _⟩
  · exact ⟨none, c, by rw [h1, h2]; rfl⟩
  · exact ⟨_, c, h1⟩

/-- an array written out -/
theorem yld_buildArr {el m : Nat} {parts : List (Nat × Operand)} {z r : List Value} {ps : List (Nat × Value)} {sz : Nat} [h : Und P t (.array m el)] [hz : Zro P t z] [hi : Inf P el sz]
    (hp : evP e parts = some ps) (hf : fillO ((List.range m).map fun i => (i * sz, sz)) z ps = some r) : Yld P e ⟨d, .build t parts.toArray, ty, pos, aft, g⟩ (.agg r.toArray) w := ⟨fun ρ hρ w' _ => by
  obtain ⟨i, v, h4, h5, h6⟩ := hz.at_
  obtain ⟨i', h7, h8⟩ := hi.at_
  have hps := evP_spec hρ parts ps hp
  have hplace : ∀ j, ((List.range m).map fun i => (i * sz, sz))[j]? = if j < m then some (j * sz, sz) else none := fun j => by
    by_cases hj : j < m <;> simp [hj]
  have hfill := fillO_spec (fun j => if j < m then some (j * sz, sz) else none) _ hplace ps z r hf
  have hfill2 : Instr.fill (fun i => some (i * sz, sz)) z.toArray ps = some r.toArray := stp_buildSlice.fill_more _ _ (fun j os hj => by
    by_cases hl : j < m
    · simpa [hl] using hj
    · simp [hl] at hj) _ _ _ hfill
  have hb : P.built t ps = some r.toArray := by
    unfold Program.built
    simp only [h4, h.at_, h5, h7, h6, h8]
    exact hfill2
  have hrun := run_build (P := P) w' t (parts.toArray.map fun (i, x) => (i, ρ x)) r.toArray (by
    rw [← hb, ← hps]; congr 1; simp)
  simp only [execOp, Sem.run_bind, hrun, Result.andThen_ok]
  rfl⟩

/-- '==' on two arrays of two ints -/
class NoG (P : Program) (t : TypeId) : Prop where
  at_ : P.eqGuardType P.depth t = false

theorem run_equal_arr2 {el : Nat} [h : Und P t (.array 2 el)] [he : Und P el (.int .i64)] [hi : Inf P el 1] {a b a' b' : Int} :
    (Op.equal t (.agg #[.int .i64 a, .int .i64 b]) (.agg #[.int .i64 a', .int .i64 b'])).run P w = .ok (a == a' && b == b') w := by
  have hs : ∀ w, (sizeOf el).run P w = .ok 1 w := fun w => by
    obtain ⟨i, h1, h2⟩ := hi.at_
    rw [run_sizeOf h1, h2]
  have hag : ∀ w, (isAgg el).run P w = .ok false w := fun w => by
    unfold isAgg; rw [Sem.run_bind, run_underlying he.at_]; rfl
  have hp : ∀ (cs : Array Value) (o : Nat) (v : Value), cs[o]? = some v → (part el cs o).run P w = .ok v w := fun cs o v hv => by
    unfold part
    rw [Sem.run_bind, hag]
    simp [hv]
  have hk : ∀ (k : Nat) (x y : Int), (Op.equalIn (k + 1) el (.int .i64 x) (.int .i64 y)).run P w = .ok (x == y) w := fun k x y => by
    simp [Op.equalIn, run_underlying he.at_]
  have hmain : ∀ k : Nat, (Op.equalIn (k + 1 + 1) t (.agg #[.int .i64 a, .int .i64 b]) (.agg #[.int .i64 a', .int .i64 b'])).run P w = .ok (a == a' && b == b') w := fun k => by
    rw [Op.equalIn]
    simp only [Sem.run_bind, run_underlying h.at_, Result.andThen_ok, hs]
    have e0 := hp #[.int .i64 a, .int .i64 b] 0 _ rfl
    have e1 := hp #[.int .i64 a, .int .i64 b] 1 _ rfl
    have e2 := hp #[.int .i64 a', .int .i64 b'] 0 _ rfl
    have e3 := hp #[.int .i64 a', .int .i64 b'] 1 _ rfl
    cases h1 : a == a' <;> cases h2 : b == b' <;>
      simp [Std.Legacy.Range.forIn_eq_forIn_range', Std.Legacy.Range.size, List.range', Sem.run_bind, e0, e1, e2, e3, hk, h1, h2]
  exact hmain 9998

theorem yld_eql_arr2 {el : Nat} [h : Und P t (.array 2 el)] [he : Und P el (.int .i64)] [hi : Inf P el 1] [hg : NoG P t] {a b a' b' : Int}
    (hx : ev e x = some (.agg #[.int .i64 a, .int .i64 b])) (hy : ev e y = some (.agg #[.int .i64 a', .int .i64 b'])) :
    Yld P e ⟨d, .binOp .eql t x y t2, ty, pos, aft, g⟩ (.bool (a == a' && b == b')) w := ⟨fun ρ hρ w' _ =>
  run_binOp_plain (hρ x _ hx) (hρ y _ hy) (by
    unfold eqGuard
    simp [program, hg.at_, Sem.run, bind, Sem.bind, pure]) (by
    have he := run_equal_arr2 (P := P) (t := t) (w := w') (a := a) (b := b) (a' := a') (b' := b')
    simp only [binOp, Sem.run_bind, he, Result.andThen_ok]; rfl)⟩

theorem yld_index_arr {m el : Nat} {cs : List Value} {k : IntKind} {i : Int} {v : Value} [h : Und P t (.array m el)] [hi : Inf P el 1] [hs : Scl P el] (hx : ev e x = some (.agg cs.toArray)) (hy : ev e y = some (.int k i))
    (h0 : 0 ≤ i) (h1 : i < m) (hv : cs[i.toNat]? = some v) : Yld P e ⟨d, .index t x y, ty, pos, aft, g⟩ v w := ⟨fun ρ hρ w' _ => by
  obtain ⟨D, j, h2, h3, h4, h5⟩ := hs.at_
  have hag : (isAgg el).run P w' = .ok false w' := by
    unfold isAgg; rw [Sem.run_bind, run_underlying h2]; cases D <;> first | rfl | (exact h3.elim)
  have hp : (part el cs.toArray (i.toNat * 1)).run P w' = .ok v w' := by
    unfold part
    rw [Sem.run_bind, hag]
    simp [hv]
  simp [execOp, hρ x _ hx, hρ y _ hy, Instr.index, asIntOf, run_underlying h.at_, h0, h1, run_sizeOf h4, h5, hp] at hp ⊢
  simp [hp]⟩

theorem yld_lenS {a : Option Addr} {n c : Nat} {el : TypeId} [h : Und P t (.slice el)] (hx : ev e x = some (.slice a n c)) :
    Yld P e ⟨d, .call ⟨.builtin .len, #[x], #[t]⟩, ty, pos, aft, g⟩ (.int .i64 n) w := yld_len_slice (t := t) hx rfl
theorem yld_lenT {s : ByteArray} [h : Und P t .string] (hx : ev e x = some (.string s)) :
    Yld P e ⟨d, .call ⟨.builtin .len, #[x], #[t]⟩, ty, pos, aft, g⟩ (.int .i64 s.size) w := yld_len_str (t := t) hx rfl

/-- what is known, among what is known -/
def subs (e : Env) : Env → Prop
  | [] => True
  | (i, v) :: r => lk e i = some v ∧ subs e r
theorem sub_of {e e' : Env} (h : subs e e') : ∀ i v, lk e' i = some v → lk e i = some v := by
  induction e' with
  | nil => intro i v hi; simp [lk] at hi
  | cons p r ih =>
    obtain ⟨j, u⟩ := p
    intro i v hi
    rw [lk_cons] at hi
    split at hi
    · rename_i hji; subst hji; cases hi; exact h.1
    · exact ih h.2 i v hi

theorem part_l (l1 l2 : List Value) {o : Nat} (ho : o = 0) : ∀ (j : Nat) (v : Value), l1[j]? = some v → (l1 ++ l2).toArray[o + j]? = some v := by
  subst ho
  intro j v hj
  have : j < l1.length := (List.getElem?_eq_some_iff.1 hj).1
  simp only [List.getElem?_toArray, Nat.zero_add]
  rw [List.getElem?_append_left this]; exact hj
theorem part_r (l1 l2 : List Value) {o : Nat} (ho : o = l1.length) : ∀ (j : Nat) (v : Value), l2[j]? = some v → (l1 ++ l2).toArray[o + j]? = some v := by
  subst ho
  intro j v hj
  simp only [List.getElem?_toArray]
  rw [List.getElem?_append_right (by omega), Nat.add_sub_cancel_left]; exact hj

/-! Short names, for the walks' text. -/
abbrev gY {P : Program} {e : Env} {d : Option Tmp} {ty : TypeId} {pos : String} {aft : Array Edge} {g : Option (Nat × Bool)} {v : Value} {w : World} (o : Op) : Prop := Yld P e ⟨d, o, ty, pos, aft, g⟩ v w
abbrev gU {P : Program} {n : Nat} {ops : List Oper} {Q : Post} {D : List Deferred} {e : Env} {w : World} (l : List Oper) : Prop := WU P n ops Q l D e w
abbrev gW {P : Program} {n : Nat} {Q : Post} {D : List Deferred} {e : Env} {w : World} (c : Code) : Prop := W P n c Q D e w
abbrev gT {K : List Deferred → Env → World → Prop} {Q : Post} {D : List Deferred} {e : Env} {w : World} (o : Exit) : Prop := thn K Q o D e w
abbrev gI {id : Nat} {Q : Post} {D : List Deferred} {e : Env} {w : World} (o : Exit) : Prop := inb id Q o D e w
abbrev ya := @yld_add_in
abbrev yb := @yld_assert1
abbrev yc := @yld_assert_nil
abbrev yd := @yld_assert_no
abbrev ye := @yld_assert_yes
abbrev yf := @yld_assign
abbrev yg := @yld_build
abbrev yh := @yld_eql_bool
abbrev yi := @yld_eql_ifn
abbrev yj := @yld_eql_ifnn
abbrev yk := @yld_eql_ift
abbrev yl := @yld_eql_int
abbrev ym := @yld_eql_mapnil
abbrev yn := @yld_eql_nif
abbrev yo := @yld_eql_nn
abbrev yp := @yld_eql_pn
abbrev yq := @yld_eql_slnil
abbrev yr := @yld_eql_str
abbrev ys := @yld_extract
abbrev yt := @yld_fieldAddr
abbrev yu := @yld_geq_int
abbrev yv := @yld_gtr_int
abbrev yw := @yld_indexAddr
abbrev yx := @yld_lenS
abbrev yy := @yld_lenT
abbrev yz := @yld_leq_int
abbrev za := @yld_load_cell
abbrev zb := @yld_load_whole
abbrev zc := @yld_lss_int
abbrev zd := @yld_makeInterface
abbrev ze := @yld_move
abbrev zf := @yld_neq_bool
abbrev zg := @yld_neq_ifn
abbrev zh := @yld_neq_ifnn
abbrev zi := @yld_neq_ift
abbrev zj := @yld_neq_int
abbrev zk := @yld_neq_mapnil
abbrev zl := @yld_neq_nif
abbrev zm := @yld_neq_nn
abbrev zn := @yld_neq_pn
abbrev zo := @yld_neq_slnil
abbrev zp := @yld_neq_str
abbrev zq := @yld_nilCheck
abbrev zr := @yld_nilCheck_iface
abbrev zs := @yld_not
abbrev zt := @yld_pick
abbrev zu := @yld_pick_f
abbrev zv := @yld_pick_t
abbrev zw := @yld_sub_in
end Go.Kd

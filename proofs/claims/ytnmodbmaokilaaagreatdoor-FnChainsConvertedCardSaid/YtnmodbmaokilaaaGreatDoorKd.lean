/- The walk kit, part d: comparisons, arithmetic, type switches, slices, stores, results. -/
import Derived.Test.YtnmodbmaokilaaaGreatDoorKc
namespace Go.Kd
variable {P : Program} {e : Env} {w : World} {d : Option Tmp} {ty t t2 : TypeId} {pos : String} {aft : Array Edge} {g : Option (Nat × Bool)} {x y : Operand}

theorem run_binOp_plain {op : BinOp} {ρ : Operand → Value} {a b : Value} {v : Value} {w' : World} (ha : ρ x = a) (hb : ρ y = b)
    (hg : (eqGuard op t x y a b).run P w' = .ok () w') (h : (binOp op t a b).run P w' = .ok v w') :
    (execOp ρ ⟨d, .binOp op t x y t2, ty, pos, aft, g⟩).run P w' = .ok (.value v) w' := by
  simp only [execOp, Sem.run_bind, ha, hb, hg, Result.andThen_ok, h]
  rfl

theorem eqGuard_int {op : BinOp} {k k' : IntKind} {a b : Int} : (eqGuard op t x y (.int k a) (.int k' b)).run P w = .ok () w := by
  unfold eqGuard; cases op <;> rfl
theorem eqGuard_str {op : BinOp} {a b : ByteArray} : (eqGuard op t x y (.string a) (.string b)).run P w = .ok () w := by
  unfold eqGuard; cases op <;> rfl
theorem eqGuard_bool {op : BinOp} {a b : Bool} : (eqGuard op t x y (.bool a) (.bool b)).run P w = .ok () w := by
  unfold eqGuard; cases op <;> rfl
theorem eqGuard_ptr {op : BinOp} {a b : Option Addr} : (eqGuard op t x y (.pointer a) (.pointer b)).run P w = .ok () w := by
  unfold eqGuard; cases op <;> rfl
theorem eqGuard_map {op : BinOp} {a b : Option Nat} : (eqGuard op t x y (.map a) (.map b)).run P w = .ok () w := by
  unfold eqGuard; cases op <;> rfl
theorem eqGuard_slice {op : BinOp} {a b : Option Addr} {n c n' c' : Nat} : (eqGuard op t x y (.slice a n c) (.slice b n' c')).run P w = .ok () w := by
  unfold eqGuard; cases op <;> rfl
theorem eqGuard_if {op : BinOp} {u u' : TypeId} {a b : Value} : (eqGuard op t x y (.iface u a) (.iface u' b)).run P w = .ok () w := by
  unfold eqGuard; cases op <;> rfl
theorem eqGuard_ifn {op : BinOp} {u : TypeId} {a : Value} : (eqGuard op t x y (.iface u a) .nilIface).run P w = .ok () w := by
  unfold eqGuard; cases op <;> rfl
theorem eqGuard_nif {op : BinOp} {u : TypeId} {a : Value} : (eqGuard op t x y .nilIface (.iface u a)).run P w = .ok () w := by
  unfold eqGuard; cases op <;> rfl
theorem eqGuard_nn {op : BinOp} {v : Value} : (eqGuard op t x (.const v) .nilIface .nilIface).run P w = .ok () w := by
  unfold eqGuard; cases op <;> first | rfl | (cases x <;> rfl)

theorem yld_add {k : IntKind} {a b : Int} (hx : ev e x = some (.int k a)) (hy : ev e y = some (.int k b)) : Yld P e ⟨d, .binOp .add t x y t2, ty, pos, aft, g⟩ (.int k (k.wrap (a + b))) w := ⟨fun ρ hρ w' _ =>
  run_binOp_plain (hρ x _ hx) (hρ y _ hy) eqGuard_int (by simp [binOp, Op.intArith])⟩
theorem yld_add_in {a b : Int} (hx : ev e x = some (.int .i64 a)) (hy : ev e y = some (.int .i64 b)) (h : -9223372036854775808 ≤ a + b ∧ a + b ≤ 9223372036854775807) :
    Yld P e ⟨d, .binOp .add t x y t2, ty, pos, aft, g⟩ (.int .i64 (a + b)) w := by
  have := yld_add (P := P) (w := w) (d := d) (t := t) (t2 := t2) (ty := ty) (pos := pos) (aft := aft) (g := g) hx hy
  rwa [IntWalk.i64_in _ (by omega)] at this

theorem yld_sub {k : IntKind} {a b : Int} (hx : ev e x = some (.int k a)) (hy : ev e y = some (.int k b)) : Yld P e ⟨d, .binOp .sub t x y t2, ty, pos, aft, g⟩ (.int k (k.wrap (a - b))) w := ⟨fun ρ hρ w' _ =>
  run_binOp_plain (hρ x _ hx) (hρ y _ hy) eqGuard_int (by simp [binOp, Op.intArith])⟩
theorem yld_sub_in {a b : Int} (hx : ev e x = some (.int .i64 a)) (hy : ev e y = some (.int .i64 b)) (h : -9223372036854775808 ≤ a - b ∧ a - b ≤ 9223372036854775807) :
    Yld P e ⟨d, .binOp .sub t x y t2, ty, pos, aft, g⟩ (.int .i64 (a - b)) w := by
  have := yld_sub (P := P) (w := w) (d := d) (t := t) (t2 := t2) (ty := ty) (pos := pos) (aft := aft) (g := g) hx hy
  rwa [IntWalk.i64_in _ (by omega)] at this

theorem yld_mul {k : IntKind} {a b : Int} (hx : ev e x = some (.int k a)) (hy : ev e y = some (.int k b)) : Yld P e ⟨d, .binOp .mul t x y t2, ty, pos, aft, g⟩ (.int k (k.wrap (a * b))) w := ⟨fun ρ hρ w' _ =>
  run_binOp_plain (hρ x _ hx) (hρ y _ hy) eqGuard_int (by simp [binOp, Op.intArith])⟩
theorem yld_mul_in {a b : Int} (hx : ev e x = some (.int .i64 a)) (hy : ev e y = some (.int .i64 b)) (h : -9223372036854775808 ≤ a * b ∧ a * b ≤ 9223372036854775807) :
    Yld P e ⟨d, .binOp .mul t x y t2, ty, pos, aft, g⟩ (.int .i64 (a * b)) w := by
  have := yld_mul (P := P) (w := w) (d := d) (t := t) (t2 := t2) (ty := ty) (pos := pos) (aft := aft) (g := g) hx hy
  rwa [IntWalk.i64_in _ (by omega)] at this

theorem yld_eql_int {k : IntKind} {a b : Int} (hx : ev e x = some (.int k a)) (hy : ev e y = some (.int k b)) : Yld P e ⟨d, .binOp .eql t x y t2, ty, pos, aft, g⟩ (.bool (a == b)) w := ⟨fun ρ hρ w' _ =>
  run_binOp_plain (hρ x _ hx) (hρ y _ hy) eqGuard_int (by simp [binOp, Op.intCmp])⟩

theorem yld_neq_int {k : IntKind} {a b : Int} (hx : ev e x = some (.int k a)) (hy : ev e y = some (.int k b)) : Yld P e ⟨d, .binOp .neq t x y t2, ty, pos, aft, g⟩ (.bool (a != b)) w := ⟨fun ρ hρ w' _ =>
  run_binOp_plain (hρ x _ hx) (hρ y _ hy) eqGuard_int (by simp [binOp, Op.intCmp])⟩

theorem yld_lss_int {k : IntKind} {a b : Int} (hx : ev e x = some (.int k a)) (hy : ev e y = some (.int k b)) : Yld P e ⟨d, .binOp .lss t x y t2, ty, pos, aft, g⟩ (.bool (decide (a < b))) w := ⟨fun ρ hρ w' _ =>
  run_binOp_plain (hρ x _ hx) (hρ y _ hy) eqGuard_int (by simp [binOp, Op.intCmp])⟩

theorem yld_leq_int {k : IntKind} {a b : Int} (hx : ev e x = some (.int k a)) (hy : ev e y = some (.int k b)) : Yld P e ⟨d, .binOp .leq t x y t2, ty, pos, aft, g⟩ (.bool (decide (a ≤ b))) w := ⟨fun ρ hρ w' _ =>
  run_binOp_plain (hρ x _ hx) (hρ y _ hy) eqGuard_int (by simp [binOp, Op.intCmp])⟩

theorem yld_gtr_int {k : IntKind} {a b : Int} (hx : ev e x = some (.int k a)) (hy : ev e y = some (.int k b)) : Yld P e ⟨d, .binOp .gtr t x y t2, ty, pos, aft, g⟩ (.bool (decide (a > b))) w := ⟨fun ρ hρ w' _ =>
  run_binOp_plain (hρ x _ hx) (hρ y _ hy) eqGuard_int (by simp [binOp, Op.intCmp])⟩

theorem yld_geq_int {k : IntKind} {a b : Int} (hx : ev e x = some (.int k a)) (hy : ev e y = some (.int k b)) : Yld P e ⟨d, .binOp .geq t x y t2, ty, pos, aft, g⟩ (.bool (decide (a ≥ b))) w := ⟨fun ρ hρ w' _ =>
  run_binOp_plain (hρ x _ hx) (hρ y _ hy) eqGuard_int (by simp [binOp, Op.intCmp])⟩

theorem yld_rem {k : IntKind} {a b : Int} (hx : ev e x = some (.int k a)) (hy : ev e y = some (.int k b)) (hb : b ≠ 0) : Yld P e ⟨d, .binOp .rem t x y t2, ty, pos, aft, g⟩ (.int k (a.tmod b)) w := ⟨fun ρ hρ w' _ =>
  run_binOp_plain (hρ x _ hx) (hρ y _ hy) eqGuard_int (by simp [binOp, Op.intDiv, hb])⟩
theorem yld_quo {k : IntKind} {a b : Int} (hx : ev e x = some (.int k a)) (hy : ev e y = some (.int k b)) (hb : b ≠ 0) : Yld P e ⟨d, .binOp .quo t x y t2, ty, pos, aft, g⟩ (.int k (k.wrap (a.tdiv b))) w := ⟨fun ρ hρ w' _ =>
  run_binOp_plain (hρ x _ hx) (hρ y _ hy) eqGuard_int (by simp [binOp, Op.intDiv, hb])⟩
theorem yld_and {k : IntKind} {a b : Int} (hx : ev e x = some (.int k a)) (hy : ev e y = some (.int k b)) : Yld P e ⟨d, .binOp .and t x y t2, ty, pos, aft, g⟩ (.int k (k.wrap (BitVec.ofInt k.bits a &&& BitVec.ofInt k.bits b).toNat)) w := ⟨fun ρ hρ w' _ =>
  run_binOp_plain (hρ x _ hx) (hρ y _ hy) eqGuard_int (by simp [binOp, Op.intBits])⟩
theorem yld_or {k : IntKind} {a b : Int} (hx : ev e x = some (.int k a)) (hy : ev e y = some (.int k b)) : Yld P e ⟨d, .binOp .or t x y t2, ty, pos, aft, g⟩ (.int k (k.wrap (BitVec.ofInt k.bits a ||| BitVec.ofInt k.bits b).toNat)) w := ⟨fun ρ hρ w' _ =>
  run_binOp_plain (hρ x _ hx) (hρ y _ hy) eqGuard_int (by simp [binOp, Op.intBits])⟩
theorem yld_not {b : Bool} (hx : ev e x = some (.bool b)) : Yld P e ⟨d, .unOp .not t x, ty, pos, aft, g⟩ (.bool (!b)) w := ⟨fun ρ hρ w' _ => by
  simp only [execOp, hρ x _ hx, Op.unary]; rfl⟩
theorem yld_eql_str {a b : ByteArray} (hx : ev e x = some (.string a)) (hy : ev e y = some (.string b)) : Yld P e ⟨d, .binOp .eql t x y t2, ty, pos, aft, g⟩ (.bool (a.toList == b.toList)) w := ⟨fun ρ hρ w' _ =>
  run_binOp_plain (hρ x _ hx) (hρ y _ hy) eqGuard_str (by simp [binOp, Op.stringOp])⟩
theorem yld_neq_str {a b : ByteArray} (hx : ev e x = some (.string a)) (hy : ev e y = some (.string b)) : Yld P e ⟨d, .binOp .neq t x y t2, ty, pos, aft, g⟩ (.bool (!(a.toList == b.toList))) w := ⟨fun ρ hρ w' _ =>
  run_binOp_plain (hρ x _ hx) (hρ y _ hy) eqGuard_str (by simp [binOp, Op.stringOp])⟩

theorem yld_eql_bool {a b : Bool} [h : Und P t .bool] (hx : ev e x = some (.bool a)) (hy : ev e y = some (.bool b)) : Yld P e ⟨d, .binOp .eql t x y t2, ty, pos, aft, g⟩ (.bool (a == b)) w := ⟨fun ρ hρ w' _ =>
  run_binOp_plain (hρ x _ hx) (hρ y _ hy) eqGuard_bool (by
    have hk : ∀ k : Nat, (Op.equalIn (k + 1) t (.bool a) (.bool b)).run P w' = .ok (a == b) w' := fun k => by simp [Op.equalIn, run_underlying h.at_]
    have he : (Op.equal t (.bool a) (.bool b)).run P w' = .ok (a == b) w' := hk 9999
    simp only [binOp, Sem.run_bind, he, Result.andThen_ok]; rfl)⟩

theorem yld_neq_bool {a b : Bool} [h : Und P t .bool] (hx : ev e x = some (.bool a)) (hy : ev e y = some (.bool b)) : Yld P e ⟨d, .binOp .neq t x y t2, ty, pos, aft, g⟩ (.bool (!(a == b))) w := ⟨fun ρ hρ w' _ =>
  run_binOp_plain (hρ x _ hx) (hρ y _ hy) eqGuard_bool (by
    have hk : ∀ k : Nat, (Op.equalIn (k + 1) t (.bool a) (.bool b)).run P w' = .ok (a == b) w' := fun k => by simp [Op.equalIn, run_underlying h.at_]
    have he : (Op.equal t (.bool a) (.bool b)).run P w' = .ok (a == b) w' := hk 9999
    simp only [binOp, Sem.run_bind, he, Result.andThen_ok]; rfl)⟩

theorem yld_eql_pn {a : Addr} {el : TypeId} [h : Und P t (.pointer el)] (hx : ev e x = some (.pointer (some a))) (hy : ev e y = some (.pointer none)) : Yld P e ⟨d, .binOp .eql t x y t2, ty, pos, aft, g⟩ (.bool (false)) w := ⟨fun ρ hρ w' _ =>
  run_binOp_plain (hρ x _ hx) (hρ y _ hy) eqGuard_ptr (by
    have hk : ∀ k : Nat, (Op.equalIn (k + 1) t (.pointer (some a)) (.pointer none)).run P w' = .ok (false) w' := fun k => by simp [Op.equalIn, run_underlying h.at_]
    have he : (Op.equal t (.pointer (some a)) (.pointer none)).run P w' = .ok (false) w' := hk 9999
    simp only [binOp, Sem.run_bind, he, Result.andThen_ok]; rfl)⟩

theorem yld_neq_pn {a : Addr} {el : TypeId} [h : Und P t (.pointer el)] (hx : ev e x = some (.pointer (some a))) (hy : ev e y = some (.pointer none)) : Yld P e ⟨d, .binOp .neq t x y t2, ty, pos, aft, g⟩ (.bool (true)) w := ⟨fun ρ hρ w' _ =>
  run_binOp_plain (hρ x _ hx) (hρ y _ hy) eqGuard_ptr (by
    have hk : ∀ k : Nat, (Op.equalIn (k + 1) t (.pointer (some a)) (.pointer none)).run P w' = .ok (false) w' := fun k => by simp [Op.equalIn, run_underlying h.at_]
    have he : (Op.equal t (.pointer (some a)) (.pointer none)).run P w' = .ok (false) w' := hk 9999
    simp only [binOp, Sem.run_bind, he, Result.andThen_ok]; rfl)⟩

theorem yld_eql_nn {el : TypeId} [h : Und P t (.pointer el)] (hx : ev e x = some (.pointer none)) (hy : ev e y = some (.pointer none)) : Yld P e ⟨d, .binOp .eql t x y t2, ty, pos, aft, g⟩ (.bool (true)) w := ⟨fun ρ hρ w' _ =>
  run_binOp_plain (hρ x _ hx) (hρ y _ hy) eqGuard_ptr (by
    have hk : ∀ k : Nat, (Op.equalIn (k + 1) t (.pointer none) (.pointer none)).run P w' = .ok (true) w' := fun k => by simp [Op.equalIn, run_underlying h.at_]
    have he : (Op.equal t (.pointer none) (.pointer none)).run P w' = .ok (true) w' := hk 9999
    simp only [binOp, Sem.run_bind, he, Result.andThen_ok]; rfl)⟩

theorem yld_neq_nn {el : TypeId} [h : Und P t (.pointer el)] (hx : ev e x = some (.pointer none)) (hy : ev e y = some (.pointer none)) : Yld P e ⟨d, .binOp .neq t x y t2, ty, pos, aft, g⟩ (.bool (false)) w := ⟨fun ρ hρ w' _ =>
  run_binOp_plain (hρ x _ hx) (hρ y _ hy) eqGuard_ptr (by
    have hk : ∀ k : Nat, (Op.equalIn (k + 1) t (.pointer none) (.pointer none)).run P w' = .ok (true) w' := fun k => by simp [Op.equalIn, run_underlying h.at_]
    have he : (Op.equal t (.pointer none) (.pointer none)).run P w' = .ok (true) w' := hk 9999
    simp only [binOp, Sem.run_bind, he, Result.andThen_ok]; rfl)⟩

theorem yld_eql_np {a : Addr} {el : TypeId} [h : Und P t (.pointer el)] (hx : ev e x = some (.pointer none)) (hy : ev e y = some (.pointer (some a))) : Yld P e ⟨d, .binOp .eql t x y t2, ty, pos, aft, g⟩ (.bool (false)) w := ⟨fun ρ hρ w' _ =>
  run_binOp_plain (hρ x _ hx) (hρ y _ hy) eqGuard_ptr (by
    have hk : ∀ k : Nat, (Op.equalIn (k + 1) t (.pointer none) (.pointer (some a))).run P w' = .ok (false) w' := fun k => by simp [Op.equalIn, run_underlying h.at_]
    have he : (Op.equal t (.pointer none) (.pointer (some a))).run P w' = .ok (false) w' := hk 9999
    simp only [binOp, Sem.run_bind, he, Result.andThen_ok]; rfl)⟩

theorem yld_neq_np {a : Addr} {el : TypeId} [h : Und P t (.pointer el)] (hx : ev e x = some (.pointer none)) (hy : ev e y = some (.pointer (some a))) : Yld P e ⟨d, .binOp .neq t x y t2, ty, pos, aft, g⟩ (.bool (true)) w := ⟨fun ρ hρ w' _ =>
  run_binOp_plain (hρ x _ hx) (hρ y _ hy) eqGuard_ptr (by
    have hk : ∀ k : Nat, (Op.equalIn (k + 1) t (.pointer none) (.pointer (some a))).run P w' = .ok (false) w' := fun k => by simp [Op.equalIn, run_underlying h.at_]
    have he : (Op.equal t (.pointer none) (.pointer (some a))).run P w' = .ok (false) w' := hk 9999
    simp only [binOp, Sem.run_bind, he, Result.andThen_ok]; rfl)⟩

theorem yld_eql_mapnil {r : Option Nat} {k el : TypeId} [h : Und P t (.map k el)] (hx : ev e x = some (.map r)) (hy : ev e y = some (.map none)) : Yld P e ⟨d, .binOp .eql t x y t2, ty, pos, aft, g⟩ (.bool (r.isNone)) w := ⟨fun ρ hρ w' _ =>
  run_binOp_plain (hρ x _ hx) (hρ y _ hy) eqGuard_map (by
    have hk : ∀ k : Nat, (Op.equalIn (k + 1) t (.map r) (.map none)).run P w' = .ok (r.isNone) w' := fun k => by cases r <;> simp [Op.equalIn, run_underlying h.at_]
    have he : (Op.equal t (.map r) (.map none)).run P w' = .ok (r.isNone) w' := hk 9999
    simp only [binOp, Sem.run_bind, he, Result.andThen_ok]; rfl)⟩

theorem yld_neq_mapnil {r : Option Nat} {k el : TypeId} [h : Und P t (.map k el)] (hx : ev e x = some (.map r)) (hy : ev e y = some (.map none)) : Yld P e ⟨d, .binOp .neq t x y t2, ty, pos, aft, g⟩ (.bool (!(r.isNone))) w := ⟨fun ρ hρ w' _ =>
  run_binOp_plain (hρ x _ hx) (hρ y _ hy) eqGuard_map (by
    have hk : ∀ k : Nat, (Op.equalIn (k + 1) t (.map r) (.map none)).run P w' = .ok (r.isNone) w' := fun k => by cases r <;> simp [Op.equalIn, run_underlying h.at_]
    have he : (Op.equal t (.map r) (.map none)).run P w' = .ok (r.isNone) w' := hk 9999
    simp only [binOp, Sem.run_bind, he, Result.andThen_ok]; rfl)⟩

theorem yld_eql_slnil {a : Option Addr} {n c n' c' : Nat} {el : TypeId} [h : Und P t (.slice el)] (hx : ev e x = some (.slice a n c)) (hy : ev e y = some (.slice none n' c')) : Yld P e ⟨d, .binOp .eql t x y t2, ty, pos, aft, g⟩ (.bool (a.isNone)) w := ⟨fun ρ hρ w' _ =>
  run_binOp_plain (hρ x _ hx) (hρ y _ hy) eqGuard_slice (by
    have hk : ∀ k : Nat, (Op.equalIn (k + 1) t (.slice a n c) (.slice none n' c')).run P w' = .ok (a.isNone) w' := fun k => by cases a <;> simp [Op.equalIn, run_underlying h.at_]
    have he : (Op.equal t (.slice a n c) (.slice none n' c')).run P w' = .ok (a.isNone) w' := hk 9999
    simp only [binOp, Sem.run_bind, he, Result.andThen_ok]; rfl)⟩

theorem yld_neq_slnil {a : Option Addr} {n c n' c' : Nat} {el : TypeId} [h : Und P t (.slice el)] (hx : ev e x = some (.slice a n c)) (hy : ev e y = some (.slice none n' c')) : Yld P e ⟨d, .binOp .neq t x y t2, ty, pos, aft, g⟩ (.bool (!(a.isNone))) w := ⟨fun ρ hρ w' _ =>
  run_binOp_plain (hρ x _ hx) (hρ y _ hy) eqGuard_slice (by
    have hk : ∀ k : Nat, (Op.equalIn (k + 1) t (.slice a n c) (.slice none n' c')).run P w' = .ok (a.isNone) w' := fun k => by cases a <;> simp [Op.equalIn, run_underlying h.at_]
    have he : (Op.equal t (.slice a n c) (.slice none n' c')).run P w' = .ok (a.isNone) w' := hk 9999
    simp only [binOp, Sem.run_bind, he, Result.andThen_ok]; rfl)⟩

theorem yld_eql_ifn {u : TypeId} {a : Value} {ms : Array (String × TypeId)} [h : Und P t (.interface ms)] (hx : ev e x = some (.iface u a)) (hy : ev e y = some .nilIface) : Yld P e ⟨d, .binOp .eql t x y t2, ty, pos, aft, g⟩ (.bool (false)) w := ⟨fun ρ hρ w' _ =>
  run_binOp_plain (hρ x _ hx) (hρ y _ hy) eqGuard_ifn (by
    have hk : ∀ k : Nat, (Op.equalIn (k + 1) t (.iface u a) .nilIface).run P w' = .ok (false) w' := fun k => by simp [Op.equalIn, run_underlying h.at_]
    have he : (Op.equal t (.iface u a) .nilIface).run P w' = .ok (false) w' := hk 9999
    simp only [binOp, Sem.run_bind, he, Result.andThen_ok]; rfl)⟩

theorem yld_neq_ifn {u : TypeId} {a : Value} {ms : Array (String × TypeId)} [h : Und P t (.interface ms)] (hx : ev e x = some (.iface u a)) (hy : ev e y = some .nilIface) : Yld P e ⟨d, .binOp .neq t x y t2, ty, pos, aft, g⟩ (.bool (true)) w := ⟨fun ρ hρ w' _ =>
  run_binOp_plain (hρ x _ hx) (hρ y _ hy) eqGuard_ifn (by
    have hk : ∀ k : Nat, (Op.equalIn (k + 1) t (.iface u a) .nilIface).run P w' = .ok (false) w' := fun k => by simp [Op.equalIn, run_underlying h.at_]
    have he : (Op.equal t (.iface u a) .nilIface).run P w' = .ok (false) w' := hk 9999
    simp only [binOp, Sem.run_bind, he, Result.andThen_ok]; rfl)⟩

theorem yld_eql_nif {u : TypeId} {a : Value} {ms : Array (String × TypeId)} [h : Und P t (.interface ms)] (hx : ev e x = some .nilIface) (hy : ev e y = some (.iface u a)) : Yld P e ⟨d, .binOp .eql t x y t2, ty, pos, aft, g⟩ (.bool (false)) w := ⟨fun ρ hρ w' _ =>
  run_binOp_plain (hρ x _ hx) (hρ y _ hy) eqGuard_nif (by
    have hk : ∀ k : Nat, (Op.equalIn (k + 1) t .nilIface (.iface u a)).run P w' = .ok (false) w' := fun k => by simp [Op.equalIn, run_underlying h.at_]
    have he : (Op.equal t .nilIface (.iface u a)).run P w' = .ok (false) w' := hk 9999
    simp only [binOp, Sem.run_bind, he, Result.andThen_ok]; rfl)⟩

theorem yld_neq_nif {u : TypeId} {a : Value} {ms : Array (String × TypeId)} [h : Und P t (.interface ms)] (hx : ev e x = some .nilIface) (hy : ev e y = some (.iface u a)) : Yld P e ⟨d, .binOp .neq t x y t2, ty, pos, aft, g⟩ (.bool (true)) w := ⟨fun ρ hρ w' _ =>
  run_binOp_plain (hρ x _ hx) (hρ y _ hy) eqGuard_nif (by
    have hk : ∀ k : Nat, (Op.equalIn (k + 1) t .nilIface (.iface u a)).run P w' = .ok (false) w' := fun k => by simp [Op.equalIn, run_underlying h.at_]
    have he : (Op.equal t .nilIface (.iface u a)).run P w' = .ok (false) w' := hk 9999
    simp only [binOp, Sem.run_bind, he, Result.andThen_ok]; rfl)⟩

theorem yld_eql_ift {u u2 : TypeId} {a b : Value} {ms : Array (String × TypeId)} [h : Und P t (.interface ms)] (hne : u ≠ u2) (hx : ev e x = some (.iface u a)) (hy : ev e y = some (.iface u2 b)) : Yld P e ⟨d, .binOp .eql t x y t2, ty, pos, aft, g⟩ (.bool (false)) w := ⟨fun ρ hρ w' _ =>
  run_binOp_plain (hρ x _ hx) (hρ y _ hy) eqGuard_if (by
    have hk : ∀ k : Nat, (Op.equalIn (k + 1) t (.iface u a) (.iface u2 b)).run P w' = .ok (false) w' := fun k => by simp [Op.equalIn, run_underlying h.at_, hne]
    have he : (Op.equal t (.iface u a) (.iface u2 b)).run P w' = .ok (false) w' := hk 9999
    simp only [binOp, Sem.run_bind, he, Result.andThen_ok]; rfl)⟩

theorem yld_neq_ift {u u2 : TypeId} {a b : Value} {ms : Array (String × TypeId)} [h : Und P t (.interface ms)] (hne : u ≠ u2) (hx : ev e x = some (.iface u a)) (hy : ev e y = some (.iface u2 b)) : Yld P e ⟨d, .binOp .neq t x y t2, ty, pos, aft, g⟩ (.bool (true)) w := ⟨fun ρ hρ w' _ =>
  run_binOp_plain (hρ x _ hx) (hρ y _ hy) eqGuard_if (by
    have hk : ∀ k : Nat, (Op.equalIn (k + 1) t (.iface u a) (.iface u2 b)).run P w' = .ok (false) w' := fun k => by simp [Op.equalIn, run_underlying h.at_, hne]
    have he : (Op.equal t (.iface u a) (.iface u2 b)).run P w' = .ok (false) w' := hk 9999
    simp only [binOp, Sem.run_bind, he, Result.andThen_ok]; rfl)⟩

theorem yld_eql_ifnn {v : Value} {ms : Array (String × TypeId)} [h : Und P t (.interface ms)] (hx : ev e x = some .nilIface) (hv : v = .nilIface) : Yld P e ⟨d, .binOp .eql t x (.const v) t2, ty, pos, aft, g⟩ (.bool true) w := ⟨fun ρ hρ w' _ => by
  subst hv
  exact run_binOp_plain (hρ x _ hx) (hρ (.const .nilIface) _ rfl) eqGuard_nn (by
    have hk : ∀ k : Nat, (Op.equalIn (k + 1) t .nilIface .nilIface).run P w' = .ok true w' := fun k => by simp [Op.equalIn, run_underlying h.at_]
    have he : (Op.equal t .nilIface .nilIface).run P w' = .ok true w' := hk 9999
    simp only [binOp, Sem.run_bind, he, Result.andThen_ok]; rfl)⟩
theorem yld_neq_ifnn {v : Value} {ms : Array (String × TypeId)} [h : Und P t (.interface ms)] (hx : ev e x = some .nilIface) (hv : v = .nilIface) : Yld P e ⟨d, .binOp .neq t x (.const v) t2, ty, pos, aft, g⟩ (.bool false) w := ⟨fun ρ hρ w' _ => by
  subst hv
  exact run_binOp_plain (hρ x _ hx) (hρ (.const .nilIface) _ rfl) eqGuard_nn (by
    have hk : ∀ k : Nat, (Op.equalIn (k + 1) t .nilIface .nilIface).run P w' = .ok true w' := fun k => by simp [Op.equalIn, run_underlying h.at_]
    have he : (Op.equal t .nilIface .nilIface).run P w' = .ok true w' := hk 9999
    simp only [binOp, Sem.run_bind, he, Result.andThen_ok]; rfl)⟩

/-! pointers to blocks of cells -/
class PtrT (P : Program) (t : TypeId) : Prop where
  at_ : ∃ el i, P.underlying t = some (.pointer el) ∧ P.info? el = some i ∧ i.size ≠ 0
class CmpT (P : Program) (t : TypeId) : Prop where
  at_ : ∃ i, P.info? t = some i ∧ i.comparable = true

/-- a block of cells of which no string shares any -/
class Pl (w : World) (b : Nat) : Prop where
  at_ : ∃ cs t, w.heap[b]? = some (.cells cs t (0, 0))
instance Pl.of_has {w : World} {b : Nat} {cs : Array Value} {t : TypeId} [h : Has w b (.cells cs t (0, 0))] : Pl w b := ⟨cs, t, h.at_⟩
theorem Pl.lt {w : World} {b : Nat} (h : Pl w b) : b < w.heap.size := by
  obtain ⟨cs, t, h⟩ := h.at_
  exact (Array.getElem?_eq_some_iff.1 h).1
theorem Pl.ext' {w w' : World} {b : Nat} (x : Ext w w') (h : Pl w b) : Pl w' b := by
  obtain ⟨cs, t, h2⟩ := h.at_
  exact ⟨cs, t, by rw [x.below.block b h.lt]; exact h2⟩
instance Pl.ext {w w' : World} {b : Nat} [x : Ext w w'] [h : Pl w b] : Pl w' b := h.ext' x

theorem run_equalIn_ptr {n : Nat} {a b : Addr} [h : PtrT P t] (ha : Pl w a.block) (hb : Pl w b.block) : (Op.equalIn (n + 1) t (.pointer (some a)) (.pointer (some b))).run P w = .ok (decide (a = b)) w := by
  obtain ⟨el, i, h1, h2, h3⟩ := h.at_
  obtain ⟨ca, ta, ha⟩ := ha.at_
  obtain ⟨cb, tb, hb⟩ := hb.at_
  by_cases hab : a = b
  · subst hab
    simp [Op.equalIn, run_underlying h1, sizeOf, typeInfo, h2, run_sameAddr_same]
  · simp [Op.equalIn, run_underlying h1, sizeOf, typeInfo, h2, h3, run_sameAddr_other w hab ha hb, hab]

theorem run_equal_ptr {a b : Addr} [h : PtrT P t] (ha : Pl w a.block) (hb : Pl w b.block) : (Op.equal t (.pointer (some a)) (.pointer (some b))).run P w = .ok (decide (a = b)) w :=
  run_equalIn_ptr (n := 9999) ha hb

theorem run_equal_ifp {u : TypeId} {ms : Array (String × TypeId)} [h : Und P t (.interface ms)] [hp : PtrT P u] [hc : CmpT P u] {a b : Addr} (ha : Pl w a.block) (hb : Pl w b.block) :
    (Op.equal t (.iface u (.pointer (some a))) (.iface u (.pointer (some b)))).run P w = .ok (decide (a = b)) w := by
  obtain ⟨i, h1, h2⟩ := hc.at_
  have hk : ∀ k : Nat, (Op.equalIn (k + 1 + 1) t (.iface u (.pointer (some a))) (.iface u (.pointer (some b)))).run P w = .ok (decide (a = b)) w := fun k => by
    have h3 := run_equalIn_ptr (P := P) (t := u) (n := k) ha hb
    rw [Op.equalIn]
    simp [run_underlying h.at_, typeInfo, h1, h2, h3]
  exact hk 9998

theorem yld_eql_ptr [h : PtrT P t] {a b : Addr} (hx : ev e x = some (.pointer (some a))) (hy : ev e y = some (.pointer (some b))) [ha : Pl w a.block] [hb : Pl w b.block] : Yld P e ⟨d, .binOp .eql t x y t2, ty, pos, aft, g⟩ (.bool (decide (a = b))) w := ⟨fun ρ hρ w' hw =>
  run_binOp_plain (hρ x _ hx) (hρ y _ hy) eqGuard_ptr (by
    have he := run_equal_ptr (P := P) (t := t) (ha.ext' hw) (hb.ext' hw)
    simp only [binOp, Sem.run_bind, he, Result.andThen_ok]; rfl)⟩

theorem yld_neq_ptr [h : PtrT P t] {a b : Addr} (hx : ev e x = some (.pointer (some a))) (hy : ev e y = some (.pointer (some b))) [ha : Pl w a.block] [hb : Pl w b.block] : Yld P e ⟨d, .binOp .neq t x y t2, ty, pos, aft, g⟩ (.bool (!decide (a = b))) w := ⟨fun ρ hρ w' hw =>
  run_binOp_plain (hρ x _ hx) (hρ y _ hy) eqGuard_ptr (by
    have he := run_equal_ptr (P := P) (t := t) (ha.ext' hw) (hb.ext' hw)
    simp only [binOp, Sem.run_bind, he, Result.andThen_ok]; rfl)⟩

theorem yld_eql_ifp {u : TypeId} {ms : Array (String × TypeId)} [h : Und P t (.interface ms)] [hp : PtrT P u] [hc : CmpT P u] {a b : Addr} (hx : ev e x = some (.iface u (.pointer (some a)))) (hy : ev e y = some (.iface u (.pointer (some b)))) [ha : Pl w a.block] [hb : Pl w b.block] : Yld P e ⟨d, .binOp .eql t x y t2, ty, pos, aft, g⟩ (.bool (decide (a = b))) w := ⟨fun ρ hρ w' hw =>
  run_binOp_plain (hρ x _ hx) (hρ y _ hy) eqGuard_if (by
    have he := run_equal_ifp (P := P) (t := t) (u := u) (ha.ext' hw) (hb.ext' hw)
    simp only [binOp, Sem.run_bind, he, Result.andThen_ok]; rfl)⟩

theorem yld_neq_ifp {u : TypeId} {ms : Array (String × TypeId)} [h : Und P t (.interface ms)] [hp : PtrT P u] [hc : CmpT P u] {a b : Addr} (hx : ev e x = some (.iface u (.pointer (some a)))) (hy : ev e y = some (.iface u (.pointer (some b)))) [ha : Pl w a.block] [hb : Pl w b.block] : Yld P e ⟨d, .binOp .neq t x y t2, ty, pos, aft, g⟩ (.bool (!decide (a = b))) w := ⟨fun ρ hρ w' hw =>
  run_binOp_plain (hρ x _ hx) (hρ y _ hy) eqGuard_if (by
    have he := run_equal_ifp (P := P) (t := t) (u := u) (ha.ext' hw) (hb.ext' hw)
    simp only [binOp, Sem.run_bind, he, Result.andThen_ok]; rfl)⟩


/-! ### Type switches -/
class Zv (P : Program) (t : TypeId) (z : outParam Value) : Prop where
  at_ : ∃ i, P.info? t = some i ∧ i.zero = some z
def noIf (D : TypeDesc) : Bool := match D with | .interface _ => false | _ => true

theorem yld_assert_yes {t u : TypeId} {v : Value} {D : TypeDesc} [h : Und P u D] (hD : noIf D = true) (hx : ev e x = some (.iface u v)) :
    Yld P e ⟨d, .typeAssert x t u true, ty, pos, aft, g⟩ (.tuple #[v, .bool true]) w := ⟨fun ρ hρ w' _ => by
  have hu := h.at_
  simp only [execOp, hρ x _ hx, Instr.typeAssert]
  cases D <;> first
    | (simp [noIf] at hD; done)
    | simp [run_underlying hu]⟩
theorem yld_assert_no {t u u2 : TypeId} {v z : Value} {D : TypeDesc} [h : Und P u D] [hz : Zv P u z] (hD : noIf D = true) (hx : ev e x = some (.iface u2 v)) (hne : Nat.beq u2 u = false) :
    Yld P e ⟨d, .typeAssert x t u true, ty, pos, aft, g⟩ (.tuple #[z, .bool false]) w := ⟨fun ρ hρ w' _ => by
  have hu := h.at_
  obtain ⟨i, h1, h2⟩ := hz.at_
  have hne' : u2 ≠ u := fun hh => by subst hh; simp [Nat.beq_refl] at hne
  simp only [execOp, hρ x _ hx, Instr.typeAssert]
  cases D <;> first
    | (simp [noIf] at hD; done)
    | simp [run_underlying hu, hne', zeroValue, typeInfo, h1, h2]⟩
theorem yld_assert_nil {t u : TypeId} {z : Value} {D : TypeDesc} [h : Und P u D] [hz : Zv P u z] (hD : noIf D = true) (hx : ev e x = some .nilIface) :
    Yld P e ⟨d, .typeAssert x t u true, ty, pos, aft, g⟩ (.tuple #[z, .bool false]) w := ⟨fun ρ hρ w' _ => by
  have hu := h.at_
  obtain ⟨i, h1, h2⟩ := hz.at_
  simp only [execOp, hρ x _ hx, Instr.typeAssert]
  cases D <;> first
    | (simp [noIf] at hD; done)
    | simp [run_underlying hu, zeroValue, typeInfo, h1, h2]⟩
/-- without ', ok' -/
theorem yld_assert1 {t u : TypeId} {v : Value} {D : TypeDesc} [h : Und P u D] (hD : noIf D = true) (hx : ev e x = some (.iface u v)) :
    Yld P e ⟨d, .typeAssert x t u false, ty, pos, aft, g⟩ v w := ⟨fun ρ hρ w' _ => by
  have hu := h.at_
  simp only [execOp, hρ x _ hx, Instr.typeAssert]
  cases D <;> first
    | (simp [noIf] at hD; done)
    | simp [run_underlying hu]⟩

/-! ### Slices -/
theorem yld_indexAddr {el : TypeId} {b o n c : Nat} {k : IntKind} {i : Int} {sz : Nat} [h : Und P t (.slice el)] [hi : Inf P el sz] (hx : ev e x = some (.slice (some ⟨b, o, none⟩) n c)) (hy : ev e y = some (.int k i))
    (h0 : 0 ≤ i) (h1 : i < n) : Yld P e ⟨d, .indexAddr t x y, ty, pos, aft, g⟩ (.pointer (some ⟨b, o + i.toNat * sz, none⟩)) w := ⟨fun ρ hρ w' _ => by
  obtain ⟨j, h2, h3⟩ := hi.at_
  have hadd : (⟨b, o, none⟩ : Addr).add (i.toNat * sz) = ⟨b, o + i.toNat * sz, none⟩ := Addr.add_mid ..
  simp [execOp, hρ x _ hx, hρ y _ hy, Instr.indexAt, asIntOf, run_underlying h.at_, h0, h1, sizeOf, typeInfo, h2, h3, hadd]⟩

theorem yld_len_slice {a : Option Addr} {n c : Nat} {el : TypeId} {tys : Array TypeId} [h : Und P t (.slice el)] (hx : ev e x = some (.slice a n c)) (ht : tys[0]? = some t) :
    Yld P e ⟨d, .call ⟨.builtin .len, #[x], tys⟩, ty, pos, aft, g⟩ (.int .i64 n) w := ⟨fun ρ hρ w' _ => by
  simp [execOp, resolve, invoke, builtin, Builtin.len_, hρ x _ hx, ht, run_underlying h.at_, goInt]⟩
theorem yld_len_str {s : ByteArray} {tys : Array TypeId} [h : Und P t .string] (hx : ev e x = some (.string s)) (ht : tys[0]? = some t) :
    Yld P e ⟨d, .call ⟨.builtin .len, #[x], tys⟩, ty, pos, aft, g⟩ (.int .i64 s.size) w := ⟨fun ρ hρ w' _ => by
  simp [execOp, resolve, invoke, builtin, Builtin.len_, hρ x _ hx, ht, run_underlying h.at_, goInt]⟩

/-! ### Stores -/
class Upd (w : semiOutParam World) (b : semiOutParam Nat) (o : semiOutParam Obj) (w' : World) : Prop where
  has : Has w' b o
  oth : ∀ c, c ≠ b → w'.heap[c]? = w.heap[c]?
  size : w'.heap.size = w.heap.size
  os : w'.os = w.os
  tape : w'.tape = w.tape
  output : w'.output = w.output

instance Upd.has' {w : World} {b : Nat} {o : Obj} {w' : World} [h : Upd w b o w'] : Has w' b o := h.has

theorem Upd.keep {w w' : World} {b c : Nat} {o o' : Obj} (h : Upd w b o w') (hc : Has w c o') (hne : c ≠ b) : Has w' c o' := ⟨(h.oth c hne).trans hc.at_⟩
theorem Upd.ext {w0 w w' : World} {b : Nat} {o : Obj} (h : Upd w b o w') (x : Ext w0 w) (hb : w0.heap.size ≤ b) : Ext w0 w' :=
  ⟨⟨h.os.trans x.below.os, h.tape.trans x.below.tape, h.output.trans x.below.output, by rw [h.size]; exact x.below.size, fun k hk => by
    rw [h.oth k (by omega)]; exact x.below.block k hk⟩⟩

/-- a store into a new block -/
theorem Upd.ofNew {w w1 w' : World} {b : Nat} {o o' : Obj} (h : Upd w1 b o w') (n : New w b o' w1) : New w b o w' :=
  ⟨n.num, h.has, h.ext n.ext (by rw [n.num]; exact Nat.le_refl _), h.size.trans n.size⟩

theorem Upd.setRow {w : World} {b : Nat} {cs cs' : Array Value} {t : TypeId} (h : Has w b (.cells cs t (0, 0))) : Upd w b (.cells cs' t (0, 0)) (w.setRow b cs') := by
  refine ⟨⟨setRow_heap w b cs cs' t (0, 0) h.at_⟩, fun c hc => ?_, ?_, rfl, rfl, rfl⟩
  · unfold World.setRow
    simp [Array.getElem?_modify, Ne.symm hc]
  · unfold World.setRow
    simp

/-- a struct into a whole block -/
theorem stp_store_whole {b : Nat} {cs : Array Value} {l : List Value} {t' : TypeId} [hi : Inf P t l.length] [hb : Has w b (.cells cs t' (0, 0))] (hx : ev e x = some (.pointer (some ⟨b, 0, none⟩))) (hy : ev e y = some (.agg l.toArray))
    (hsz : Nat.beq cs.size l.length = true) (h1 : (l.all (·.oneCell')) = true) : Stp P e ⟨d, .store t x y, ty, pos, aft, g⟩ w (fun _ w' => Upd w b (.cells l.toArray t' (0, 0)) w') := ⟨fun ρ hρ => by
  obtain ⟨i, h2, h3⟩ := hi.at_
  have hs := run_storeVar_row (P := P) w b t' t cs l.toArray hb.at_ (by simp [h2, h3]) (by simpa using Nat.eq_of_beq_eq_true hsz) (by simpa using h1)
  simp only [execOp, hρ x _ hx, hρ y _ hy, Instr.storeAt, Instr.sureAddr, Sem.run_bind, Sem.run_pure, Result.andThen_ok, hs]
  exact Upd.setRow hb⟩

/-- one cell, of whatever block -/
theorem stp_store_at {b i : Nat} {cs : Array Value} {v : Value} {t' : TypeId} [h : Scl P t] [hb : Has w b (.cells cs t' (0, 0))] (hx : ev e x = some (.pointer (some ⟨b, i, none⟩))) (hy : ev e y = some v)
    (hi : i < cs.size) (h1 : v.oneCell' = true) : Stp P e ⟨d, .store t x y, ty, pos, aft, g⟩ w (fun _ w' => Upd w b (.cells (cs.setIfInBounds i v) t' (0, 0)) w') := ⟨fun ρ hρ => by
  obtain ⟨D, j, h2, h3, h4, h5⟩ := h.at_
  have hc : v.cells = #[v] := by cases v <;> simp_all [Value.cells, Value.oneCell']
  have hcell : w.cell? ⟨b, i, none⟩ = some cs[i] := by simp [World.cell?, hb.at_, hi]
  have hfro : w.frozen? ⟨b, i, none⟩ = false := by simp [World.frozen?, hb.at_]
  have hst : (store (⟨b, i, none⟩ : Addr) v).run P w = .ok () (w.setRow b (cs.setIfInBounds i v)) := by
    rw [run_store P w _ v _ h1, hcell]
    simp [hfro, setCell_eq_setRow w b i cs t' (0, 0) v hb.at_]
  have hs : (storeVar t ⟨b, i, none⟩ v).run P w = .ok () (w.setRow b (cs.setIfInBounds i v)) := by
    have ha0 : (⟨b, i, none⟩ : Addr).add 0 = ⟨b, i, none⟩ := rfl
    simp [storeVar, sizeOf, typeInfo, h4, h5, hc, storeCells, ha0, hst]
  simp only [execOp, hρ x _ hx, hρ y _ hy, Instr.storeAt, Instr.sureAddr, Sem.run_bind, Sem.run_pure, Result.andThen_ok, hs]
  exact Upd.setRow hb⟩
/-- one cell of a block written out -/
theorem stp_store_cell {b i : Nat} {l l' : List Value} {v : Value} {t' : TypeId} [h : Scl P t] [hb : Has w b (.cells l.toArray t' (0, 0))] (hx : ev e x = some (.pointer (some ⟨b, i, none⟩))) (hy : ev e y = some v)
    (hs : setO l i v = some l') (h1 : v.oneCell' = true) : Stp P e ⟨d, .store t x y, ty, pos, aft, g⟩ w (fun _ w' => Upd w b (.cells l'.toArray t' (0, 0)) w') := by
  obtain ⟨h2, h3⟩ := setO_spec l i v l' hs
  have := stp_store_at (P := P) (d := d) (ty := ty) (pos := pos) (aft := aft) (g := g) (t := t) (h := h) (hb := hb) hx hy (by simpa using h2) h1
  have he : l.toArray.setIfInBounds i v = l'.toArray := by rw [h3]; simp
  rwa [he] at this

/-! ### The call's frame and its results -/
def argE : List Value → Nat → Env
  | [], _ => []
  | v :: r, i => (i, v) :: argE r (i + 1)

theorem argE_lk : ∀ (l : List Value) (k i : Nat) (v : Value), lk (argE l k) i = some v → k ≤ i ∧ l[i - k]? = some v
  | [], _, _, _, h => by simp [argE, lk] at h
  | u :: r, k, i, v, h => by
    simp only [argE, lk_cons] at h
    split at h
    · rename_i hk; subst hk; simp_all
    · rename_i hk
      obtain ⟨h1, h2⟩ := argE_lk r (k + 1) i v h
      refine ⟨by omega, ?_⟩
      rw [show i - k = (i - (k + 1)) + 1 from by omega]
      simpa using h2

/-- the same, in full -/
def argO : List Value → Option Env
  | [] => some []
  | [a] => some [(0, a)]
  | [a, b] => some [(0, a), (1, b)]
  | [a, b, c] => some [(0, a), (1, b), (2, c)]
  | [a, b, c, d] => some [(0, a), (1, b), (2, c), (3, d)]
  | [a, b, c, d, e] => some [(0, a), (1, b), (2, c), (3, d), (4, e)]
  | [a, b, c, d, e, f] => some [(0, a), (1, b), (2, c), (3, d), (4, e), (5, f)]
  | [a, b, c, d, e, f, g] => some [(0, a), (1, b), (2, c), (3, d), (4, e), (5, f), (6, g)]
  | [a, b, c, d, e, f, g, h] => some [(0, a), (1, b), (2, c), (3, d), (4, e), (5, f), (6, g), (7, h)]
  | _ => none
theorem argO_eq (l : List Value) (e : Env) (h : argO l = some e) : e = argE l 0 := by
  unfold argO at h
  split at h <;> first
    | (cases h; done)
    | (cases h; rfl)

/-- What the result variables hold. -/
inductive RV (P : Program) (e : Env) (w : World) : List ResultVar → List Value → Prop
  | nil : RV P e w [] []
  | tmp {t v r vs} : lk e t = some v → RV P e w r vs → RV P e w (.tmp t :: r) (v :: vs)
  | cell {t a ty v r vs} : lk e t = some (.pointer (some a)) → (loadVar ty a).run P w = .ok v w → RV P e w r vs → RV P e w (.cell t ty :: r) (v :: vs)

def tup : List Value → Value
  | [v] => v
  | vs => .tuple vs.toArray

def fin (P : Program) (fn : Func) (R : Ending → World → Prop) : Post
  | .normal, D, e, w | .ret, D, e, w => D = [] ∧ ∃ vs, RV P e w fn.results.toList vs ∧ R (.returned (tup vs)) w
  | _, _, _, _ => False

def resF (tmps : Array Value) : ResultVar → Sem Value
  | .tmp t => pure (tmps.getD t undef)
  | .cell a t => do loadVar t (← asAddr (tmps.getD a undef))

theorem results_eq (fn : Func) (tmps : Array Value) : results fn tmps = (do
    let vs ← fn.results.mapM (resF tmps)
    pure (if h : vs.size = 1 then vs[0] else .tuple vs)) := rfl

theorem getD_of {l : Array Value} {i : Nat} {v : Value} (h : l[i]? = some v) : l.getD i undef = v := by
  rw [Array.getD_eq_getD_getElem?, h]; rfl

theorem run_results {P : Program} {fn : Func} {n : Nat} {D : List Deferred} {e : Env} {a : Act} {w : World} (ha : Fr n D e a) {vs : List Value} (h : RV P e w fn.results.toList vs) :
    (results fn a.tmps).run P w = .ok (tup vs) w := by
  have hm : ∀ (rs : List ResultVar) (vs : List Value), RV P e w rs vs → (rs.mapM (resF a.tmps)).run P w = .ok vs w := by
    intro rs vs h
    induction h with
    | nil => rfl
    | tmp h1 _ ih =>
      have h4 := getD_of (ha.get _ _ h1)
      simp only [List.mapM_cons, Sem.run_bind, resF, h4, Sem.run_pure, Result.andThen_ok, ih]
    | cell h1 h2 _ ih =>
      have h4 := getD_of (ha.get _ _ h1)
      simp only [List.mapM_cons, Sem.run_bind, resF, h4, asAddr, Sem.run_pure, Result.andThen_ok, h2, ih]
  have h1 := hm _ _ h
  rw [results_eq, Array.mapM_eq_mapM_toList]
  have h2 : ((List.toArray <$> fn.results.toList.mapM (resF a.tmps) : Sem (Array Value)).run P w) = .ok vs.toArray w := by
    show ((fn.results.toList.mapM (resF a.tmps)) >>= fun l => pure l.toArray : Sem (Array Value)).run P w = _
    rw [Sem.run_bind, h1]
    rfl
  rw [Sem.run_bind, h2]
  simp only [Result.andThen_ok, Sem.run_pure, List.size_toArray]
  match vs with
  | [] => rfl
  | [v] => rfl
  | u :: v :: r => simp [tup]

theorem W.enter {P : Program} {k n : Nat} {fn : Func} {c : Code} {args : List Value} {w : World} {R : Ending → World → Prop} (hf : P.funcs[k]? = some fn) (hb : fn.body = some c)
    (hn : fn.ntmps = n) (hl : Nat.ble args.length n = true) {e : Env} (he : argO args = some e) (h : W P n c (fin P fn R) [] e w) : Calls P k args.toArray w R :=
  calls_of_wp hf hb (wp_mono ((argO_eq args e he ▸ h : W P n c (fin P fn R) [] (argE args 0) w).out { tmps := args.toArray ++ Array.replicate (fn.ntmps - args.toArray.size) undef, defers := [] } ⟨by have := Nat.le_of_ble_eq_true hl; simp; omega, rfl, fun i v hi => by
      obtain ⟨_, h2⟩ := argE_lk args 0 i v hi
      simp only [Nat.sub_zero] at h2
      have : i < args.length := (List.getElem?_eq_some_iff.1 h2).1
      rw [Array.getElem?_append_left (by simpa using this)]
      simpa using h2⟩) fun x a' w' hx => by
    cases x with
    | normal =>
      obtain ⟨D', e', ha, hD, vs, hr, hR⟩ := hx
      exact ⟨by rw [ha.defers, hD], _, run_results ha hr, hR⟩
    | ret =>
      obtain ⟨D', e', ha, hD, vs, hr, hR⟩ := hx
      exact ⟨by rw [ha.defers, hD], _, run_results ha hr, hR⟩
    | panic ch => exact hx.elim
    | outgrown => exact hx.elim
    | exit id => obtain ⟨_, _, _, h⟩ := hx; exact h.elim
    | goto l => obtain ⟨_, _, _, h⟩ := hx; exact h.elim)

theorem fin1 {P : Program} {fn : Func} {R : Value → World → Prop} {x : Exit} {e : Env} {w : World} {t : Nat} {v : Value} (hx : x = .ret ∨ x = .normal) (hr : fn.results = #[.tmp t]) (hv : lk e t = some v) (h : R v w) :
    fin P fn (Ret R) x [] e w := by
  have : RV P e w fn.results.toList [v] := by rw [hr]; exact .tmp hv .nil
  rcases hx with rfl | rfl <;> exact ⟨rfl, [v], this, v, rfl, h⟩
theorem fin0 {P : Program} {fn : Func} {R : Value → World → Prop} {x : Exit} {e : Env} {w : World} (hx : x = .ret ∨ x = .normal) (hr : fn.results = #[]) (h : R (.tuple #[]) w) :
    fin P fn (Ret R) x [] e w := by
  have : RV P e w fn.results.toList [] := by rw [hr]; exact .nil
  rcases hx with rfl | rfl <;> exact ⟨rfl, [], this, _, rfl, h⟩
/-- a struct as result -/
theorem finc {P : Program} {fn : Func} {R : Value → World → Prop} {x : Exit} {e : Env} {w : World} {t ty b : Nat} {l : List Value} {t' : TypeId} {fz : Nat × Nat} [ha : Agt P ty l.length] (hx : x = .ret ∨ x = .normal) (hr : fn.results = #[.cell t ty]) (hv : lk e t = some (.pointer (some ⟨b, 0, none⟩)))
    [hb : Has w b (.cells l.toArray t' fz)] (h : R (.agg l.toArray) w) : fin P fn (Ret R) x [] e w := by
  obtain ⟨D, i, h1, h2, h3, h4⟩ := ha.at_
  have := run_loadVar_mid (P := P) w b 0 ty l D (fun j v hj => cell_of hb (by simpa using hj)) h1 (by cases D <;> simp_all) (by simp [h3, h4])
  have : RV P e w fn.results.toList [.agg l.toArray] := by rw [hr]; exact .cell hv this .nil
  rcases hx with rfl | rfl <;> exact ⟨rfl, [.agg l.toArray], this, _, rfl, h⟩

end Go.Kd

/- The walk kit, part c: what single operations yield. -/
import Derived.Test.YtnmodbmaokilaaaGreatDoorKb
import Derived.Deep.MidRow
import Derived.WalkSpells
import Derived.Lib.SliceRun
namespace Go.Kd
variable {P : Program} {e : Env} {w : World} {d : Option Tmp} {ty : TypeId} {pos : String} {aft : Array Edge} {g : Option (Nat × Bool)}

theorem yld_move {x : Operand} {v : Value} (hx : ev e x = some v) : Yld P e ⟨d, .move x, ty, pos, aft, g⟩ v w := ⟨fun ρ hρ w' _ => by
  rw [← hρ x v hx]; rfl⟩
theorem yld_assign {x : Operand} {v : Value} (hx : ev e x = some v) : Yld P e ⟨d, .assign x, ty, pos, aft, g⟩ v w := ⟨fun ρ hρ w' _ => by
  rw [← hρ x v hx]; rfl⟩
theorem yld_pick {c x y : Operand} {b : Bool} {u v : Value} (hc : ev e c = some (.bool b)) (hx : ev e x = some u) (hy : ev e y = some v) :
    Yld P e ⟨d, .pick c x y, ty, pos, aft, g⟩ (if b then u else v) w := ⟨fun ρ hρ w' _ => by
  simp only [execOp, hρ c _ hc, hρ x _ hx, hρ y _ hy]; rfl⟩
theorem yld_pick_t {c x y : Operand} {u : Value} (hc : ev e c = some (.bool true)) (hx : ev e x = some u) :
    Yld P e ⟨d, .pick c x y, ty, pos, aft, g⟩ u w := ⟨fun ρ hρ w' _ => by
  simp only [execOp, hρ c _ hc, hρ x _ hx]; rfl⟩
theorem yld_pick_f {c x y : Operand} {v : Value} (hc : ev e c = some (.bool false)) (hy : ev e y = some v) :
    Yld P e ⟨d, .pick c x y, ty, pos, aft, g⟩ v w := ⟨fun ρ hρ w' _ => by
  simp only [execOp, hρ c _ hc, hρ y _ hy]; rfl⟩
theorem yld_nilCheck {x : Operand} {a : Addr} (hx : ev e x = some (.pointer (some a))) :
    Yld P e ⟨d, .nilCheck x, ty, pos, aft, g⟩ (.pointer (some a)) w := ⟨fun ρ hρ w' _ => by
  simp only [execOp, hρ x _ hx]; rfl⟩
theorem yld_nilCheck_iface {x : Operand} {t : TypeId} {v : Value} (hx : ev e x = some (.iface t v)) :
    Yld P e ⟨d, .nilCheck x, ty, pos, aft, g⟩ (.iface t v) w := ⟨fun ρ hρ w' _ => by
  simp only [execOp, hρ x _ hx]; rfl⟩
theorem yld_extract {x : Operand} {i : Nat} {vs : Array Value} {v : Value} (hx : ev e x = some (.tuple vs)) (hv : vs[i]? = some v) :
    Yld P e ⟨d, .extract x i, ty, pos, aft, g⟩ v w := ⟨fun ρ hρ w' _ => by
  simp only [execOp, hρ x _ hx, Instr.extract, hv]; rfl⟩
theorem yld_makeInterface {t : TypeId} {x : Operand} {v : Value} {D : TypeDesc} [h : Und P t D] (hD : (match D with | .interface _ => false | _ => true) = true) (hx : ev e x = some v) :
    Yld P e ⟨d, .makeInterface t x, ty, pos, aft, g⟩ (.iface t v) w := ⟨fun ρ hρ w' _ => by
  have hu := h.at_
  simp only [execOp, hρ x _ hx, Instr.makeInterface]
  cases D <;> first
    | (simp at hD; done)
    | (simp [underlying, program, hu, Sem.run, bind, Sem.bind, pure])⟩
theorem run_sizeOf {t : TypeId} {i : TypeInfo} (h : P.info? t = some i) (w : World) : (sizeOf t).run P w = .ok i.size w := by
  simp [sizeOf, typeInfo, program, h, Sem.run, bind, Sem.bind, pure]

theorem yld_fieldAddr {s : TypeId} {x : Operand} {f off b o : Nat} [h : Fld P s f off] (hx : ev e x = some (.pointer (some ⟨b, o, none⟩))) :
    Yld P e ⟨d, .fieldAddr s x f, ty, pos, aft, g⟩ (.pointer (some ⟨b, o + off, none⟩)) w := ⟨fun ρ hρ w' _ => by
  obtain ⟨fs, fd, i, h1, h2, h3, h4, h5⟩ := h.at_
  have hadd : (⟨b, o, none⟩ : Addr).add off = ⟨b, o + off, none⟩ := Addr.add_mid ..
  simp [execOp, hρ x _ hx, Instr.fieldAt, Instr.sureAddr, fieldPlace, underlying, sizeOf, typeInfo, program, h1, h2, h3, h4, h5, hadd, Sem.run, bind, Sem.bind, pure]⟩

/-- a cell -/
theorem cell_of {b : Nat} {cs : Array Value} {t : TypeId} {fz : Nat × Nat} {i : Nat} {v : Value} {w : World} (h : Has w b (.cells cs t fz)) (hv : cs[i]? = some v) :
    w.cell? ⟨b, i, none⟩ = some v := by
  simp [World.cell?, h.at_, hv]

def getO : List Value → Nat → Option Value
  | [], _ => none
  | v :: _, 0 => some v
  | _ :: r, n + 1 => getO r n
theorem getO_eq : ∀ (l : List Value) (i : Nat), getO l i = l[i]?
  | [], _ => rfl
  | _ :: _, 0 => rfl
  | _ :: r, n + 1 => by simp [getO, getO_eq r n]

theorem yld_load_cell {t : TypeId} {x : Operand} {b i : Nat} {v : Value} [h : Scl P t] (hx : ev e x = some (.pointer (some ⟨b, i, none⟩)))
    {l : List Value} {t' : TypeId} {fz : Nat × Nat} [hb : Has w b (.cells l.toArray t' fz)] (hv : getO l i = some v) :
    Yld P e ⟨d, .load t x, ty, pos, aft, g⟩ v w := ⟨fun ρ hρ w' hw => by
  obtain ⟨D, inf, h1, h2, h3, h4⟩ := h.at_
  have hc := cell_of (i := i) (v := v) (hb.ext' hw) (by simpa [getO_eq] using hv)
  simp only [execOp, hρ x _ hx, Instr.loadAt, Instr.sureAddr, loadVar, isAgg]
  cases D <;> first
    | (simp at h2; done)
    | (simp [underlying, program, h1, Sem.run, bind, Sem.bind, pure, load, hc])⟩


/-- a struct that is a whole block, or a part of one -/
theorem yld_load_part {t : TypeId} {x : Operand} {b o : Nat} {l : List Value} [h : Agt P t l.length] (hx : ev e x = some (.pointer (some ⟨b, o, none⟩)))
    {cs : Array Value} {t' : TypeId} {fz : Nat × Nat} [hb : Has w b (.cells cs t' fz)] (hl : ∀ j v, l[j]? = some v → cs[o + j]? = some v) :
    Yld P e ⟨d, .load t x, ty, pos, aft, g⟩ (.agg l.toArray) w := ⟨fun ρ hρ w' hw => by
  obtain ⟨D, i, h1, h2, h3, h4⟩ := h.at_
  have := run_loadVar_mid (P := P) w' b o t l D (fun j v hj => cell_of (hb.ext' hw) (hl j v hj)) h1 (by cases D <;> simp_all) (by simp [h3, h4])
  simp [execOp, hρ x _ hx, Instr.loadAt, Instr.sureAddr, this]⟩

theorem yld_load_whole {t : TypeId} {x : Operand} {b : Nat} {l : List Value} [h : Agt P t l.length] (hx : ev e x = some (.pointer (some ⟨b, 0, none⟩)))
    {t' : TypeId} {fz : Nat × Nat} [hb : Has w b (.cells l.toArray t' fz)] :
    Yld P e ⟨d, .load t x, ty, pos, aft, g⟩ (.agg l.toArray) w := yld_load_part hx (fun j v hj => by simpa using hj)

/-! ### New blocks -/
class Inf (P : Program) (t : TypeId) (sz : outParam Nat) : Prop where
  at_ : ∃ i, P.info? t = some i ∧ i.size = sz
class Zro (P : Program) (t : TypeId) (z : outParam (List Value)) : Prop where
  at_ : ∃ i v, P.info? t = some i ∧ i.zero = some v ∧ v.cells = z.toArray

class New (w : semiOutParam World) (b : semiOutParam Nat) (o : semiOutParam Obj) (w' : World) : Prop where
  num : b = w.heap.size
  has : Has w' b o
  ext : Ext w w'
  size : w'.heap.size = w.heap.size + 1

instance New.has' {w : World} {b : Nat} {o : Obj} {w' : World} [h : New w b o w'] : Has w' b o := h.has

instance New.ext' {w : World} {b : Nat} {o : Obj} {w' : World} [h : New w b o w'] : Ext w w' := h.ext

theorem New.alloc (w : World) (o : Obj) : New w w.heap.size o (w.alloc o) :=
  ⟨rfl, ⟨by show (w.heap.push o)[w.heap.size]? = some o; simp⟩, ⟨(RowKit.Below.refl _ _).alloc (Nat.le_refl _) o⟩, by simp⟩

def isNew (w : World) (o : Obj) (v : Value) (w' : World) : Prop := ∃ b, v = .pointer (some ⟨b, 0, none⟩) ∧ New w b o w'

theorem stp_alloc {t : TypeId} {z : List Value} [h : Zro P t z] : Stp P e ⟨d, .alloc t, ty, pos, aft, g⟩ w (isNew w (.cells z.toArray t)) := ⟨fun ρ _ => by
  obtain ⟨i, v, h1, h2, h3⟩ := h.at_
  simp only [execOp, Instr.alloc, zeroValue, typeInfo, program, newVar, newRow, newObj, bind, Sem.bind, Sem.run, h1, pure, h2, h3]
  exact ⟨_, rfl, New.alloc w _⟩⟩

/-! ### Structs written out -/
def setO : List Value → Nat → Value → Option (List Value)
  | [], _, _ => none
  | _ :: zs, 0, c => some (c :: zs)
  | z :: zs, n + 1, c => match setO zs n c with
    | some r => some (z :: r)
    | none => none
def putO : List Value → Nat → List Value → Option (List Value)
  | zs, _, [] => some zs
  | zs, off, c :: cs => match setO zs off c with
    | some r => putO r (off + 1) cs
    | none => none
def cellsL : Value → List Value
  | .agg cs => cs.toList
  | v => [v]
def fillO (pl : List (Nat × Nat)) : List Value → List (Nat × Value) → Option (List Value)
  | zs, [] => some zs
  | zs, (i, v) :: r => match pl[i]? with
    | some (off, size) => match cellsL v with
      | [] => none
      | c :: cs => match Nat.beq (c :: cs).length size with
        | true => match putO zs off (c :: cs) with
          | some zs' => fillO pl zs' r
          | none => none
        | false => none
    | none => none

theorem setO_spec : ∀ (zs : List Value) (n : Nat) (c : Value) (r : List Value), setO zs n c = some r → n < zs.length ∧ r = zs.set n c
  | [], _, _, _, h => by simp [setO] at h
  | z :: zs, 0, c, r, h => by simp [setO] at h; simp [h]
  | z :: zs, n + 1, c, r, h => by
    simp only [setO] at h
    cases hs : setO zs n c with
    | none => simp [hs] at h
    | some r' =>
      obtain ⟨h1, h2⟩ := setO_spec zs n c r' hs
      simp [hs] at h
      subst h; subst h2
      exact ⟨by simp; omega, rfl⟩

theorem putO_spec : ∀ (cs zs : List Value) (off : Nat) (r : List Value), putO zs off cs = some r →
    off + cs.length ≤ zs.length ∨ cs = [] ∧ r = zs := by
  intro cs
  induction cs with
  | nil => intro zs off r h; right; simp [putO] at h; simp [h]
  | cons c cs ih =>
    intro zs off r h
    simp only [putO] at h
    cases hs : setO zs off c with
    | none => simp [hs] at h
    | some zs' =>
      obtain ⟨h1, h2⟩ := setO_spec _ _ _ _ hs
      simp only [hs] at h
      left
      rcases ih zs' (off + 1) r h with h3 | ⟨rfl, _⟩
      · subst h2; simp at h3 ⊢; omega
      · simp; omega

theorem putO_fold (cs : List Value) : ∀ (zs : List Value) (off k : Nat) (r : List Value), putO zs (off + k) cs = some r →
    (cs.zipIdx k).foldl (fun (a : Array Value) (c, j) => a.setIfInBounds (off + j) c) zs.toArray = r.toArray := by
  induction cs with
  | nil => intro zs off k r h; simp [putO] at h; simp [h]
  | cons c cs ih =>
    intro zs off k r h
    simp only [putO] at h
    cases hs : setO zs (off + k) c with
    | none => simp [hs] at h
    | some zs' =>
      obtain ⟨h1, h2⟩ := setO_spec _ _ _ _ hs
      simp only [hs] at h
      have := ih zs' off (k + 1) r (by rw [← Nat.add_assoc]; exact h)
      simp only [List.zipIdx_cons, List.foldl_cons]
      rw [← this, h2]
      simp

theorem cells_eq (v : Value) : v.cells = (cellsL v).toArray := by cases v <;> simp [Value.cells, cellsL]

theorem fillO_spec (place : Nat → Option (Nat × Nat)) (pl : List (Nat × Nat)) (hp : ∀ i, pl[i]? = place i) : ∀ (ps : List (Nat × Value)) (zs r : List Value), fillO pl zs ps = some r →
    Instr.fill place zs.toArray ps = some r.toArray := by
  intro ps
  induction ps with
  | nil => intro zs r h; simp [fillO] at h; simp [Instr.fill, h]
  | cons q ps ih =>
    intro zs r h
    obtain ⟨i, v⟩ := q
    simp only [fillO] at h
    rw [hp] at h
    cases hpl : place i with
    | none => simp [hpl] at h
    | some os =>
      obtain ⟨off, size⟩ := os
      simp only [hpl] at h
      cases hcl : cellsL v with
      | nil => simp [hcl] at h
      | cons c cs =>
        simp only [hcl] at h
        cases hb : Nat.beq (c :: cs).length size with
        | false => simp only [hb] at h; cases h
        | true =>
          simp only [hb] at h
          have hsz := Nat.eq_of_beq_eq_true hb
          cases hq : putO zs off (c :: cs) with
          | none => simp [hq] at h
          | some zs' =>
            simp only [hq] at h
            have hf := putO_fold (c :: cs) zs off 0 zs' hq
            rcases putO_spec _ _ _ _ hq with h1 | ⟨h1, _⟩
            · simp only [Instr.fill, hpl, cells_eq, hcl, List.size_toArray]
              rw [if_neg (by rw [hsz] at h1 ⊢; simp; omega)]
              have hz : ((c :: cs).toArray.zipIdx.foldl (fun (a : Array Value) (x : Value × Nat) => a.setIfInBounds (off + x.2) x.1) zs.toArray) = zs'.toArray := by
                rw [← Array.foldl_toList]
                simpa using hf
              exact hz ▸ ih _ _ h
            · cases h1

class Plc (P : Program) (t : TypeId) (pl : outParam (List (Nat × Nat))) : Prop where
  at_ : ∃ fs : Array Field, P.underlying t = some (.struct fs) ∧ fs.toList.mapM (fun f => (P.info? f.type).map fun i => (f.offset, i.size)) = some pl

def evP (e : Env) : List (Nat × Operand) → Option (List (Nat × Value))
  | [] => some []
  | (i, x) :: r => match ev e x with
    | some v => match evP e r with
      | some vs => some ((i, v) :: vs)
      | none => none
    | none => none
def evs (e : Env) : List Operand → Option (List Value)
  | [] => some []
  | x :: r => match ev e x with
    | some v => match evs e r with
      | some vs => some (v :: vs)
      | none => none
    | none => none

theorem evs_spec {ρ : Operand → Value} {e : Env} (h : Ag ρ e) : ∀ (l : List Operand) (vs : List Value), evs e l = some vs → l.map ρ = vs
  | [], vs, hv => by simp [evs] at hv; simp [hv]
  | x :: r, vs, hv => by
    simp only [evs] at hv
    cases hx : ev e x with
    | none => simp [hx] at hv
    | some v =>
      cases hr : evs e r with
      | none => simp [hx, hr] at hv
      | some us =>
        simp [hx, hr] at hv
        subst hv
        simp [h x v hx, evs_spec h r us hr]
theorem evP_spec {ρ : Operand → Value} {e : Env} (h : Ag ρ e) : ∀ (l : List (Nat × Operand)) (vs : List (Nat × Value)), evP e l = some vs → (l.map fun (i, x) => (i, ρ x)) = vs
  | [], vs, hv => by simp [evP] at hv; simp [hv]
  | (i, x) :: r, vs, hv => by
    simp only [evP] at hv
    cases hx : ev e x with
    | none => simp [hx] at hv
    | some v =>
      cases hr : evP e r with
      | none => simp [hx, hr] at hv
      | some us =>
        simp [hx, hr] at hv
        subst hv
        simp [h x v hx, evP_spec h r us hr]

theorem yld_build {t : TypeId} {parts : List (Nat × Operand)} {pl : List (Nat × Nat)} {z r : List Value} {ps : List (Nat × Value)} [h : Plc P t pl] [hz : Zro P t z]
    (hp : evP e parts = some ps) (hf : fillO pl z ps = some r) : Yld P e ⟨d, .build t parts.toArray, ty, pos, aft, g⟩ (.agg r.toArray) w := ⟨fun ρ hρ w' _ => by
  obtain ⟨fs, h1, h2⟩ := h.at_
  obtain ⟨i, v, h4, h5, h6⟩ := hz.at_
  have hps := evP_spec hρ parts ps hp
  have hfill := fillO_spec (fun j => pl.toArray[j]?) pl (fun j => by simp) ps z r hf
  have hb : P.built t ps = some r.toArray := by
    unfold Program.built
    simp only [h4, h1, h5, h2, h6]
    exact hfill
  have hrun := run_build (P := P) w' t (parts.toArray.map fun (i, x) => (i, ρ x)) r.toArray (by
    rw [← hb, ← hps]; congr 1; simp)
  simp only [execOp, Sem.run_bind, hrun, Result.andThen_ok]
  rfl⟩

def frc : List Value → Option (List Value)
  | [] => some []
  | x :: xs => match frc xs with
    | some r => some (x :: r)
    | none => none
theorem frc_eq : ∀ l, frc l = some l
  | [] => rfl
  | x :: xs => by simp [frc, frc_eq xs]
def fillB (len sz : Nat) (z : List Value) (ps : List (Nat × Value)) : Option (List Value) :=
  match frc (List.replicate len z).flatten with
  | some b => fillO ((List.range len).map fun i => (i * sz, sz)) b ps
  | none => none

theorem flat_get (z : List Value) (sz : Nat) (hz : z.length = sz) (hs : 0 < sz) : ∀ (len j : Nat), j < len * sz → (List.replicate len z).flatten[j]? = z[j % sz]?
  | 0, j, h => by omega
  | len + 1, j, h => by
    simp only [List.replicate_succ, List.flatten_cons, List.getElem?_append]
    by_cases hj : j < z.length
    · rw [if_pos hj, Nat.mod_eq_of_lt (by omega)]
    · rw [if_neg hj, flat_get z sz hz hs len (j - z.length) (by rw [Nat.succ_mul] at h; omega), hz, Nat.mod_eq_sub_mod (by omega : j ≥ sz)]

theorem flat_len (z : List Value) (len : Nat) : (List.replicate len z).flatten.length = len * z.length := by
  induction len with
  | zero => simp
  | succ n ih => simp [List.replicate_succ, Nat.succ_mul]; omega

theorem stp_box {t : TypeId} {x : Operand} {v : Value} {l : List Value} (hx : ev e x = some v) (hl : frc (cellsL v) = some l) : Stp P e ⟨d, .box t x, ty, pos, aft, g⟩ w (isNew w (.cells l.toArray t)) := ⟨fun ρ hρ => by
  simp only [execOp, Instr.box, newVar, newRow, newObj, bind, Sem.bind, Sem.run, pure, hρ x v hx, cells_eq]
  rw [frc_eq] at hl
  rw [Option.some.inj hl]
  exact ⟨_, rfl, New.alloc w _⟩⟩
theorem stp_box1 {t : TypeId} {x : Operand} {v : Value} (hx : ev e x = some v) (hv : v.oneCell' = true) : Stp P e ⟨d, .box t x, ty, pos, aft, g⟩ w (isNew w (.cells #[v] t)) := ⟨fun ρ hρ => by
  have hc : v.cells = #[v] := by cases v <;> simp_all [Value.cells, Value.oneCell']
  simp only [execOp, Instr.box, newVar, newRow, newObj, bind, Sem.bind, Sem.run, pure, hρ x v hx, hc]
  exact ⟨_, rfl, New.alloc w _⟩⟩

/-- []T{..}: a new row -/
theorem stp_buildSlice {t el : TypeId} {len : Nat} {parts : List (Nat × Operand)} {sz : Nat} {z r : List Value} {ps : List (Nat × Value)} [h : Und P t (.slice el)] [hz : Zro P el z]
    [hi : Inf P el sz] (hlen : Nat.ble (len * sz) 1000 = true) (hpos : Nat.blt 0 (len * sz) = true) (hzl : Nat.beq z.length sz = true)
    (hp : evP e parts = some ps) (hf : fillB len sz z ps = some r) :
    Stp P e ⟨d, .buildSlice t len parts.toArray, ty, pos, aft, g⟩ w
      (fun v w' => ∃ b, v = .slice (some ⟨b, 0, none⟩) len len ∧ New w b (.cells r.toArray el) w') := ⟨fun ρ hρ => by
  obtain ⟨i, v, h4, h5, h6⟩ := hz.at_
  obtain ⟨i', h7, h8⟩ := hi.at_
  have hps := evP_spec hρ parts ps hp
  have hu := h.at_
  obtain rfl : i = i' := by rw [h4] at h7; exact Option.some.inj h7
  have hpos' : 0 < len * sz := by simpa [Nat.blt_eq] using hpos
  have hlen' : len * sz ≤ 1000 := by simpa [Nat.ble_eq] using hlen
  have hs0 : 0 < sz := Nat.pos_of_mul_pos_left hpos'
  have hzl' : z.length = sz := Nat.eq_of_beq_eq_true hzl
  simp only [fillB, frc_eq] at hf
  have hbase : (Array.range (len * sz)).map (fun j => v.cells[j % v.cells.size]!) = (List.replicate len z).flatten.toArray := by
    apply Array.ext_getElem?
    intro j
    by_cases hj : j < len * sz
    · have h1 := flat_get z sz hzl' hs0 len j hj
      have h2 : j % sz < z.length := by rw [hzl']; exact Nat.mod_lt _ hs0
      simp only [List.getElem?_toArray, h1, h6, List.size_toArray, hzl']
      simp [hj, h2]
    · have h1 : (List.replicate len z).flatten.length = len * sz := by rw [flat_len, hzl']
      simp [hj, hzl']
  have hplace : ∀ j, ((List.range len).map fun i => (i * sz, sz))[j]? = if j < len then some (j * sz, sz) else none := fun j => by
    by_cases hj : j < len <;> simp [hj]
  have hfill := fillO_spec (fun j => if j < len then some (j * sz, sz) else none) _ hplace ps _ r hf
  have hfill2 : Instr.fill (fun i => some (i * sz, sz)) (List.replicate len z).flatten.toArray ps = some r.toArray := fill_more _ _ (fun j os hj => by
    by_cases hl : j < len
    · simpa [hl] using hj
    · simp [hl] at hj) _ _ _ hfill
  have hpa : (parts.toArray.map fun (i, x) => (i, ρ x)).toList = ps := by rw [← hps]; simp
  have e1 : ¬ (len * sz > 2 ^ 24) := by omega
  have e2 : ¬ (len * sz = 0) := by omega
  simp only [execOp, Instr.buildSlice, underlying, program, sizeOf, typeInfo, zeroValue, newRow, newObj, bind, Sem.bind, Sem.run, pure, hu, h7, h8, e1, e2, if_false, h5]
  simp only [Sem.bind, hbase, hpa, hfill2, Sem.run]
  exact ⟨_, rfl, New.alloc w _⟩⟩
where
  fill_more (f f' : Nat → Option (Nat × Nat)) (hff : ∀ j os, f j = some os → f' j = some os) : ∀ (ps : List (Nat × Value)) (cs r : Array Value), Instr.fill f cs ps = some r → Instr.fill f' cs ps = some r
    | [], cs, r, h => h
    | (i, v) :: ps, cs, r, h => by
      simp only [Instr.fill] at h ⊢
      cases hfi : f i with
      | none => simp [hfi] at h
      | some os =>
        obtain ⟨off, size⟩ := os
        rw [hff i _ hfi]
        simp only [hfi] at h
        simp only
        split
        · rename_i hc; rw [if_pos hc] at h; cases h
        · rename_i hc; rw [if_neg hc] at h; exact fill_more f f' hff ps _ r h

/-! ### Calls -/
def Ret (R : Value → World → Prop) (x : Ending) (w : World) : Prop := ∃ v, x = .returned v ∧ R v w

theorem stp_call {k : FuncId} {args : List Operand} {tys : Array TypeId} {vs : List Value} {R : Value → World → Prop} [h : Fun P k] (ha : evs e args = some vs) (hc : Calls P k vs.toArray w (Ret R)) :
    Stp P e ⟨d, .call ⟨.value (.func k), args.toArray, tys⟩, ty, pos, aft, g⟩ w R := ⟨fun ρ hρ => by
  obtain ⟨fn, h1, h2, h3⟩ := h.at_
  have hv : args.toArray.map ρ = vs.toArray := by rw [← evs_spec hρ args vs ha]; simp
  have hf : ρ (.func k) = .func (.func k) #[] #[] := hρ _ _ rfl
  simp only [execOp, resolve, hv, hf, Deferred.ofValue, invoke, callFunc, program, bind, Sem.bind, Sem.run, pure, h1, h2, h3, Bool.false_eq_true, if_false, Array.append_empty, Array.empty_append]
  exact hc⟩

theorem stp_invoke {recv : Operand} {name : String} {args : List Operand} {tys : Array TypeId} {T : TypeId} {v : Value} {vs : List Value} {k : FuncId} {R : Value → World → Prop}
    [hm : Mth P T name k] [h : Fun P k] (hr : ev e recv = some (.iface T v)) (ha : evs e args = some vs) (hc : Calls P k (v :: vs).toArray w (Ret R)) :
    Stp P e ⟨d, .call ⟨.invoke recv name, args.toArray, tys⟩, ty, pos, aft, g⟩ w R := ⟨fun ρ hρ => by
  obtain ⟨fn, h1, h2, h3⟩ := h.at_
  obtain ⟨⟨el, hu⟩, i, m, h4, h5, h6, h7⟩ := hm.at_
  have hv : args.toArray.map ρ = vs.toArray := by rw [← evs_spec hρ args vs ha]; simp
  have hf : ρ recv = .iface T v := hρ _ _ hr
  have hmeth : ∀ fuel, (method (fuel + 1) T v name).run P w = .ok (k, v) w := fun fuel => by
    simp only [method, typeInfo, program, bind, Sem.bind, Sem.run, pure, h4, h5, h6, h7, follow, receiverAt, underlying, hu, Place.get]
  have hfuel : P.types.size + Made.depth = (P.types.size + 99) + 1 := by unfold Made.depth; omega
  have hrun : (callMethod (.iface T v) name (#[Value.iface T v] ++ vs.toArray |>.extract 1 (#[Value.iface T v] ++ vs.toArray).size)).run P w = .ok (.enter k (v :: vs).toArray) w := by
    simp only [callMethod, program, hfuel, Sem.run_bind, Sem.run, Result.andThen_ok, hmeth]
    have hx : (#[Value.iface T v] ++ vs.toArray |>.extract 1 (#[Value.iface T v] ++ vs.toArray).size) = vs.toArray := by simp
    rw [hx]
    simp only [callFunc, program, bind, Sem.bind, Sem.run, h1, h2, h3, Bool.false_eq_true, if_false, pure]
    simp
  simp only [execOp, resolve, hv, hf, invoke]
  have hsome : (#[Value.iface T v] ++ vs.toArray)[0]? = some (.iface T v) := by simp
  simp only [Sem.run_bind, Sem.run, pure, Result.andThen_ok, hsome, hrun]
  exact hc⟩
end Go.Kd

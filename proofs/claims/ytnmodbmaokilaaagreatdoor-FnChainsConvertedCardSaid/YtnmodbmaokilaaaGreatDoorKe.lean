/- The walk kit, part e: the facts on the program's tables as closed questions. -/
import Derived.Test.YtnmodbmaokilaaaGreatDoorKd
namespace Go.Kd

def fldB (P : Program) (t f : Nat) : Option Nat :=
  match P.underlying t with
  | some (.struct fs) => match fs[f]? with
    | some fd => match P.info? fd.type with
      | some i => if i.size = 0 then none else some fd.offset
      | none => none
    | none => none
  | _ => none
theorem fld_of {P : Program} {t f off : Nat} (h : fldB P t f = some off) : Fld P t f off := by
  unfold fldB at h
  split at h <;> try (cases h; done)
  rename_i fs h1
  split at h <;> try (cases h; done)
  rename_i fd h2
  split at h <;> try (cases h; done)
  rename_i i h3
  split at h <;> try (cases h; done)
  rename_i h4
  exact ⟨fs, fd, i, h1, h2, Option.some.inj h, h3, h4⟩

def rowT : TypeDesc → Bool
  | .struct _ => true
  | .array _ _ => true
  | _ => false
def sclB (P : Program) (t : Nat) : Bool :=
  match P.underlying t with
  | some d => match P.info? t with
    | some i => !rowT d && i.size == 1
    | none => false
  | none => false
theorem scl_of {P : Program} {t : Nat} (h : sclB P t = true) : Scl P t := by
  unfold sclB at h
  split at h <;> try (cases h; done)
  rename_i d h1
  split at h <;> try (cases h; done)
  rename_i i h2
  simp only [Bool.and_eq_true, Bool.not_eq_true', beq_iff_eq] at h
  exact ⟨d, i, h1, by cases d <;> simp_all [rowT], h2, h.2⟩
def agtB (P : Program) (t : Nat) : Option Nat :=
  match P.underlying t with
  | some d => match P.info? t with
    | some i => if rowT d then some i.size else none
    | none => none
  | none => none
theorem agt_of {P : Program} {t n : Nat} (h : agtB P t = some n) : Agt P t n := by
  unfold agtB at h
  split at h <;> try (cases h; done)
  rename_i d h1
  split at h <;> try (cases h; done)
  rename_i i h2
  split at h <;> try (cases h; done)
  rename_i h3
  exact ⟨d, i, h1, by cases d <;> simp_all [rowT], h2, Option.some.inj h⟩
def funB (P : Program) (k : Nat) : Bool :=
  match P.funcs[k]? with
  | some fn => !(fn.name == "runtime.NumGoroutine") && !fn.body.isNone
  | none => false
theorem fun_of {P : Program} {k : Nat} (h : funB P k = true) : Fun P k := by
  unfold funB at h
  split at h <;> try (cases h; done)
  rename_i fn h1
  simp only [Bool.and_eq_true, Bool.not_eq_true'] at h
  exact ⟨fn, h1, h.1, h.2⟩
def mthB (P : Program) (t : Nat) (name : String) : Option Nat :=
  match P.underlying t with
  | some (.pointer _) => match P.info? t with
    | some i => match i.methods.find? (·.name == name) with
      | some m => if m.path.isEmpty then (match m.func with
        | some (k, true) => some k
        | _ => none) else none
      | none => none
    | none => none
  | _ => none
theorem mth_of {P : Program} {t k : Nat} {name : String} (h : mthB P t name = some k) : Mth P t name k := by
  unfold mthB at h
  split at h <;> try (cases h; done)
  rename_i el h1
  split at h <;> try (cases h; done)
  rename_i i h2
  split at h <;> try (cases h; done)
  rename_i m h3
  split at h <;> try (cases h; done)
  rename_i h4
  split at h <;> try (cases h; done)
  rename_i k' h5
  cases h
  exact ⟨⟨el, h1⟩, i, m, h2, h3, by simpa using h4, h5⟩
def infB (P : Program) (t : Nat) : Option Nat := (P.info? t).map (·.size)
theorem inf_of {P : Program} {t n : Nat} (h : infB P t = some n) : Inf P t n := by
  unfold infB at h
  cases hi : P.info? t with
  | none => simp [hi] at h
  | some i => exact ⟨i, hi, by simpa [hi] using h⟩
def zvB (P : Program) (t : Nat) : Option Value := (P.info? t).bind (·.zero)
theorem zv_of {P : Program} {t : Nat} {z : Value} (h : zvB P t = some z) : Zv P t z := by
  unfold zvB at h
  cases hi : P.info? t with
  | none => simp [hi] at h
  | some i => exact ⟨i, hi, by simpa [hi] using h⟩
theorem zro_of {P : Program} {t : Nat} {v : Value} {z : List Value} (h : zvB P t = some v) (hv : v.cells = z.toArray) : Zro P t z := by
  obtain ⟨i, h1, h2⟩ := (zv_of h).at_
  exact ⟨i, v, h1, h2, hv⟩
def plcB (P : Program) (t : Nat) : Option (List (Nat × Nat)) :=
  match P.underlying t with
  | some (.struct fs) => fs.toList.mapM (fun f => (P.info? f.type).map fun i => (f.offset, i.size))
  | _ => none
theorem plc_of {P : Program} {t : Nat} {pl : List (Nat × Nat)} (h : plcB P t = some pl) : Plc P t pl := by
  unfold plcB at h
  split at h <;> try (cases h; done)
  rename_i fs h1
  exact ⟨fs, h1, h⟩
def ptrB (P : Program) (t : Nat) : Bool :=
  match P.underlying t with
  | some (.pointer el) => match P.info? el with
    | some i => !(i.size == 0)
    | none => false
  | _ => false
theorem ptr_of {P : Program} {t : Nat} (h : ptrB P t = true) : PtrT P t := by
  unfold ptrB at h
  split at h <;> try (cases h; done)
  rename_i el h1
  split at h <;> try (cases h; done)
  rename_i i h2
  exact ⟨el, i, h1, h2, by simpa using h⟩
def cmpB (P : Program) (t : Nat) : Bool := match P.info? t with
  | some i => i.comparable
  | none => false
theorem cmp_of {P : Program} {t : Nat} (h : cmpB P t = true) : CmpT P t := by
  unfold cmpB at h
  split at h <;> try (cases h; done)
  rename_i i h1
  exact ⟨i, h1, h⟩
end Go.Kd

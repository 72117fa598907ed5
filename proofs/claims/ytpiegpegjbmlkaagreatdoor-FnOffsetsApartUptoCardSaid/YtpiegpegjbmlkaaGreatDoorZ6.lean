/- The walks and the plain laws, part 6. -/
import Derived.Test.YtpiegpegjbmlkaaGreatDoorZ5
import Derived.Test.YtpiegpegjbmlkaaGreatDoorCards
import Derived.Test.YtpiegpegjbmlkaaGreatDoorTie
import Derived.WalkKit
import Derived.ProofKit
import Derived.OpenShut
import Derived.Deep.DeepHandedRow
import Derived.Carry
import Derived.Lay
import Derived.SevenTiedAt
import Derived.Test.YtpiegpegjbmlkaaGreatDoorZ1
import Derived.Lib.LaidTab
namespace Go.Proofs.YtpiegpegjbmlkaaGreatDoor.Law
open Go Go.Kd
set_option maxRecDepth 100000

abbrev E0 : ByteArray := ⟨#[]⟩
theorem c_place (n k : Int) (w : World) (hk : 0 < k ∧ k ≤ 1000000) :
    Calls Tryz.prog 22 #[.int .i64 n, .int .i64 k] w (Ret fun r w' => r = .int .i64 (n % k) ∧ w = w') := by
  have h1 : -k < n.tmod k ∧ n.tmod k < k := ⟨by have := Int.lt_tmod_of_pos n hk.1; omega, Int.tmod_lt_of_pos n hk.1⟩
  have h2 : (n.tmod k + k).tmod k = n % k := by
    rw [Int.tmod_eq_emod_of_nonneg (by omega), Int.add_emod_right, Int.tmod_def, Int.sub_eq_add_neg, ← Int.mul_neg, Int.add_mul_emod_self_left]
  refine W.enter (args := [.int .i64 n, .int .i64 k]) Tryz.func22 rfl Tryz.ntmps22 rfl rfl ?_
  refine zst ?_
  refine WU.yld rfl rfl rfl (yld_rem rfl rfl (by omega)) ?_
  refine zst ?_
  refine WU.yld rfl rfl rfl (yld_rem rfl rfl (by omega)) ?_
  refine zst ?_
  exact fin1 (.inl rfl) rfl rfl ⟨by rw [h2], rfl⟩

theorem c_of (k n : Int) (a : Option Addr) (l c : Nat) (w : World) :
    Calls Tryz.prog 19 #[.int .i64 k, .int .i64 n, .slice a l c] w
      (Ret fun r w' => r = tyv k n 0 false (.slice a l c) E0 E0 false ∧ Ext w w') := by
  refine W.enter (args := [.int .i64 k, .int .i64 n, .slice a l c]) Tryz.func19 rfl Tryz.ntmps19 rfl rfl ?_
  refine zst ?_
  refine WU.stp rfl rfl rfl stp_alloc ?_
  rintro _ w1 ⟨b1, rfl, n1⟩
  refine zst ?_
  refine WU.stp0 rfl rfl (stp_store_whole rfl rfl rfl rfl) ?_
  rintro _ w2 u2
  refine zst ?_
  exact finc (.inl rfl) rfl rfl ⟨rfl, (u2.ofNew n1).ext⟩

theorem c_basic (n : Int) (w : World) :
    Calls Tryz.prog 27 #[.int .i64 n] w
      (Ret fun r w' => r = tyv 0 n 0 false (.slice none 0 0) E0 E0 false ∧ Ext w w') := by
  refine W.enter (args := [.int .i64 n]) Tryz.func27 rfl Tryz.ntmps27 rfl rfl ?_
  refine zst ?_
  refine WU.stp rfl rfl rfl stp_alloc ?_
  rintro _ w1 ⟨b1, rfl, n1⟩
  refine zst ?_
  refine WU.stp rfl rfl rfl (stp_call rfl (c_of 0 n none 0 0 w1)) ?_
  rintro _ w2 ⟨rfl, x2⟩
  refine WU.stp0 rfl rfl (stp_store_whole rfl rfl rfl rfl) ?_
  rintro _ w3 u3
  refine zst ?_
  exact finc (.inl rfl) rfl rfl ⟨rfl, u3.ext (n1.ext.trans x2) (Nat.le_of_eq n1.num.symm)⟩

theorem c_field (nm tg : ByteArray) (k n c : Int) (vr : Bool) (a : Option Addr) (l cp : Nat) (nm' tg' : ByteArray) (em : Bool) (w : World) :
    Calls Tryz.prog 20 #[.string nm, tyv k n c vr (.slice a l cp) nm' tg' em, .string tg] w
      (Ret fun r w' => r = tyv k n c vr (.slice a l cp) nm tg false ∧ Ext w w') := by
  refine W.enter (args := [.string nm, tyv k n c vr (.slice a l cp) nm' tg' em, .string tg]) Tryz.func20 rfl Tryz.ntmps20 rfl rfl ?_
  refine zst ?_
  refine WU.stp rfl rfl rfl (by first | exact stp_box rfl rfl | exact stp_box1 rfl rfl) ?_
  rintro _ w1 ⟨b1, rfl, n1⟩
  refine WU.stp rfl rfl rfl stp_alloc ?_
  rintro _ w2 ⟨b2, rfl, n2⟩
  have hb := n1.num
  have hb2 := n2.num
  have hs := n1.size
  refine zst ?_
  refine WU.stp0 rfl rfl (stp_store_cell rfl rfl rfl rfl) ?_
  rintro _ w3 u3
  refine zst ?_
  refine WU.stp0 rfl rfl (stp_store_cell rfl rfl rfl rfl) ?_
  rintro _ w4 u4
  refine zst ?_
  refine WU.stp0 rfl rfl (stp_store_cell rfl rfl rfl rfl) ?_
  rintro _ w5 u5
  refine zst ?_
  have i5 : Has w5 b2 _ := u5.keep (u4.keep (u3.keep inferInstance (by omega)) (by omega)) (by omega)
  refine WU.stp0 rfl rfl (stp_store_whole rfl rfl rfl rfl) ?_
  rintro _ w6 u6
  refine zst ?_
  have x5 : Ext w w5 := u5.ext (u4.ext (u3.ext (n1.ext.trans n2.ext) (by omega)) (by omega)) (by omega)
  exact finc (.inl rfl) rfl rfl ⟨rfl, u6.ext x5 (by omega)⟩

theorem c_element (k n c : Int) (vr : Bool) (a : Option Addr) (l cp : Nat) (nm tg : ByteArray) (em : Bool) (w : World) :
    Calls Tryz.prog 31 #[tyv k n c vr (.slice a l cp) nm tg em] w
      (Ret fun r w' => r = tyv k n c vr (.slice a l cp) E0 E0 false ∧ Ext w w') := by
  refine W.enter (args := [tyv k n c vr (.slice a l cp) nm tg em]) Tryz.func31 rfl Tryz.ntmps31 rfl rfl ?_
  refine zst ?_
  refine WU.stp rfl rfl rfl (by first | exact stp_box rfl rfl | exact stp_box1 rfl rfl) ?_
  rintro _ w1 ⟨b1, rfl, n1⟩
  refine WU.stp rfl rfl rfl stp_alloc ?_
  rintro _ w2 ⟨b2, rfl, n2⟩
  have hb := n1.num
  have hb2 := n2.num
  have hs := n1.size
  refine zst ?_
  refine WU.stp rfl rfl rfl (stp_call rfl (c_field E0 E0 k n c vr a l cp nm tg em w2)) ?_
  rintro _ w3 ⟨rfl, x3⟩
  refine WU.stp0 rfl rfl (stp_store_whole rfl rfl rfl rfl) ?_
  rintro _ w4 u4
  refine zst ?_
  exact finc (.inl rfl) rfl rfl ⟨rfl, u4.ext (n1.ext.trans (n2.ext.trans x3)) (by omega)⟩

theorem c_array (m k n c : Int) (vr : Bool) (a : Option Addr) (l cp : Nat) (nm tg : ByteArray) (em : Bool) (w : World) :
    Calls Tryz.prog 21 #[.int .i64 m, tyv k n c vr (.slice a l cp) nm tg em] w
      (Ret fun r w' => ∃ b, r = tyv 4 m 0 false (.slice (some ⟨b, 0, none⟩) 1 1) E0 E0 false ∧ Has w' b (.cells (tyl k n c vr (.slice a l cp) E0 E0 false).toArray 26) ∧ w.heap.size ≤ b ∧ Ext w w') := by
  refine W.enter (args := [.int .i64 m, tyv k n c vr (.slice a l cp) nm tg em]) Tryz.func21 rfl Tryz.ntmps21 rfl rfl ?_
  refine zst ?_
  refine WU.stp rfl rfl rfl (by first | exact stp_box rfl rfl | exact stp_box1 rfl rfl) ?_
  rintro _ w1 ⟨b1, rfl, n1⟩
  refine WU.stp rfl rfl rfl stp_alloc ?_
  rintro _ w2 ⟨b2, rfl, n2⟩
  have hb := n1.num
  have hb2 := n2.num
  have hs := n1.size
  refine zst ?_
  refine WU.stp rfl rfl rfl (stp_call rfl (c_element k n c vr a l cp nm tg em w2)) ?_
  rintro _ w3 ⟨rfl, x3⟩
  refine WU.stp rfl rfl rfl (stp_buildSlice rfl rfl rfl rfl rfl) ?_
  rintro _ w4 ⟨b4, rfl, n4⟩
  refine WU.stp rfl rfl rfl (stp_call rfl (c_of 4 m (some ⟨b4, 0, none⟩) 1 1 w4)) ?_
  rintro _ w5 ⟨rfl, x5⟩
  have h2 := n2.has.lt
  have s3 := x3.size
  have hb4 := n4.num
  refine WU.stp0 rfl rfl (stp_store_whole rfl rfl rfl rfl) ?_
  rintro _ w6 u6
  refine zst ?_
  exact finc (.inl rfl) rfl rfl ⟨b4, rfl, u6.keep inferInstance (by omega), by omega, u6.ext (n1.ext.trans (n2.ext.trans (x3.trans (n4.ext.trans x5)))) (by omega)⟩
/-! ### .. as types -/
theorem tys_el {w : World} {t : Ty} {a : Option Addr} {c r : Nat} (hr : Has w r (.cells (tyc (elT t) a c).toArray 26)) {p : Nat → Prop} (hp : p r) (ht : TysV w p a c t.elems) : TysV w p (some ⟨r, 0, none⟩) 1 [elT t] := tys_one (t := elT t) hr hp ht
/-- the value of a type: what it reads -/
structure TvP (w : World) (p : Nat → Prop) (v : Value) (t : Ty) : Prop where
  ex : ∃ a c, v = .agg (tyc t a c).toArray ∧ TysV w p a c t.elems
abbrev TvV (w : World) (v : Value) (t : Ty) : Prop := TvP w (fun b => b < w.heap.size) v t
theorem TvP.mono {w : World} {p q : Nat → Prop} (hq : ∀ b, p b → q b) {v : Value} {t : Ty} (h : TvP w p v t) : TvP w q v t := by
  obtain ⟨a, c, h1, h2⟩ := h.ex
  exact ⟨a, c, h1, h2.mono hq⟩
theorem TvP.at_ {w w' : World} (x : Ext w w') {p : Nat → Prop} {v : Value} {t : Ty} (h : TvP w p v t) : TvP w' p v t := by
  obtain ⟨a, c, h1, h2⟩ := h.ex
  exact ⟨a, c, h1, h2.ext x⟩
theorem TvP.upd {w w' : World} {b : Nat} {ob : Obj} (u : Upd w b ob w') {p : Nat → Prop} (hb : ¬ p b) {v : Value} {t : Ty} (h : TvP w p v t) : TvP w' p v t := by
  obtain ⟨a, c, h1, h2⟩ := h.ex
  exact ⟨a, c, h1, h2.upd u hb⟩
theorem TvP.ext {w w' : World} (x : Ext w w') {v : Value} {t : Ty} (h : TvV w v t) : TvV w' v t := (h.at_ x).mono fun b hb => by have := x.size; omega
/-- the block of a type's elements -/
def blk (v : Value) (b : Nat) : Prop := ∃ l, v = .agg l ∧ ∃ o s n c, l[4]? = some (.slice (some ⟨b, o, s⟩) n c)
theorem blk_tyc {t : Ty} {o : Option Addr} {c b : Nat} (h : blk (.agg (tyc t o c).toArray) b) : ∃ q s, o = some ⟨b, q, s⟩ := by
  obtain ⟨l, e, q, s, n, k, h⟩ := h
  cases e
  simp at h
  exact ⟨q, s, h.1⟩
/-- a new value, made of old ones -/
abbrev Mk (w : World) (p : Nat → Prop) (t : Ty) (r : Value) (w' : World) : Prop := TvP w' (fun b => p b ∨ blk r b) r t ∧ (∀ b, blk r b → w.heap.size ≤ b ∧ b < w'.heap.size) ∧ Ext w w'
theorem toV {f : FuncId} {args : Array Value} {w : World} {t : Ty} (h : Calls Tryz.prog f args w (Ret (Mk w (fun b => b < w.heap.size) t))) : Calls Tryz.prog f args w (Ret fun r w' => TvV w' r t ∧ Ext w w') :=
  h.mono fun _ _ ⟨r, e, h1, h2, x⟩ => ⟨r, e, h1.mono fun b hb => by
    have := x.size
    rcases hb with hb | hb
    · omega
    · exact (h2 b hb).2, x⟩
theorem n_array (m : Int) {v : Value} {t : Ty} {w : World} {p : Nat → Prop} (h : TvP w p v t) : Calls Tryz.prog 21 #[.int .i64 m, v] w (Ret (Mk w p (ndT 4 m [elT t]))) := by
  obtain ⟨a, c, rfl, ht⟩ := h.ex
  refine (c_array m t.kind t.n t.count t.vr a t.elems.length c t.name t.tag t.emb w).mono fun e w' he => ?_
  obtain ⟨r, rfl, b, rfl, hb, hs, x⟩ := he
  exact ⟨_, rfl, ⟨_, _, rfl, tys_el (t := t) hb (.inr ⟨_, rfl, 0, none, 1, 1, rfl⟩) ((ht.ext x).mono fun b hb => .inl hb)⟩, fun d hd => by
    obtain ⟨q, s, e⟩ := blk_tyc (t := ndT 4 m [elT t]) hd
    cases e
    exact ⟨hs, hb.lt⟩, x⟩
theorem t_array (m : Int) {v : Value} {t : Ty} {w : World} (h : TvV w v t) : Calls Tryz.prog 21 #[.int .i64 m, v] w (Ret fun r w' => TvV w' r (ndT 4 m [elT t]) ∧ Ext w w') := toV (n_array m h)
theorem tys_pair {w : World} {t u : Ty} {a a' : Option Addr} {c c' r : Nat} (hr : Has w r (.cells (tyc t a c ++ tyc u a' c').toArray 26)) {p : Nat → Prop} (hp : p r) (ht : TysV w p a c t.elems) (hu : TysV w p a' c' u.elems) : TysV w p (some ⟨r, 0, none⟩) 2 [t, u] :=
  ⟨Nat.le_refl _, fun i => if i = 0 then tyc t a c else tyc u a' c', fun i hi => ⟨r, 0, rfl, hp, by
    have hi : i < 2 := hi
    have hc := Cells.has hr
    rcases (show i = 0 ∨ i = 1 by omega) with rfl | rfl
    · exact hc.part (k := 0 * 8) fun j v hv => by
        have hv : (tyc t a c)[j]? = some v := hv
        simp only [Nat.zero_mul, Nat.zero_add]
        rw [List.getElem?_append_left ((List.getElem?_eq_some_iff.1 hv).1)]
        exact hv
    · exact hc.part (k := 1 * 8) fun j v hv => by
        have hv : (tyc u a' c')[j]? = some v := hv
        rw [List.getElem?_append_right (by simp)]
        simpa using hv⟩, fun i e he => by
    match i with
    | 0 => simp at he; subst he; exact .of_tys ht
    | 1 => simp at he; subst he; exact .of_tys hu
    | i + 2 => simp at he⟩
/-- a new variable for a type -/
abbrev zT : List Value := tyl 0 0 0 false (.slice none 0 0) E0 E0 false
def NewT (n0 : Nat) (v : Value) (w : World) : Prop := ∃ b, v = pt b ∧ Has w b (.cells zT.toArray 26) ∧ n0 ≤ b
def ptB (v : Value) (b : Nat) : Prop := v = pt b
theorem NewT.okT {n0 : Nat} : (∀ v w1 w2, Ext w1 w2 → NewT n0 v w1 → NewT n0 v w2) ∧ ∀ v w1, NewT n0 v w1 → ∀ b, ptB v b → b < w1.heap.size :=
  ⟨fun v w1 w2 x ⟨b, h1, h2, h3⟩ => ⟨b, h1, h2.ext' x, h3⟩, fun v w1 ⟨b, h1, h2, _⟩ c hc => by
    have hc : v = pt c := hc
    rw [h1] at hc
    have := h2.lt
    simp at hc
    omega⟩
/-- a call that makes a type out of old ones, as a task -/
def MkT (n0 : Nat) (t : Ty) (v : Value) (w : World) : Prop := TvP w (fun b => b < n0 ∨ blk v b) v t ∧ ∀ b, blk v b → n0 ≤ b ∧ b < w.heap.size
theorem MkT.okT {n0 : Nat} {t : Ty} : (∀ v w1 w2, Ext w1 w2 → MkT n0 t v w1 → MkT n0 t v w2) ∧ ∀ v w1, MkT n0 t v w1 → ∀ b, blk v b → b < w1.heap.size :=
  ⟨fun v w1 w2 x ⟨h1, h2⟩ => ⟨h1.at_ x, fun b hb => ⟨(h2 b hb).1, by have := (h2 b hb).2; have := x.size; omega⟩⟩, fun v w1 ⟨_, h2⟩ b hb => (h2 b hb).2⟩
/-- declarations in memory -/
structure LW (D : List De) (a : Option Addr) (cp : Nat) (w : World) : Prop where
  hp : Prp w
  hd : DsV w (fun b => b < w.heap.size) (.slice a D.length cp) D
theorem LW.ext {D : List De} {a : Option Addr} {cp : Nat} {w w' : World} (x : Ext w w') (h : LW D a cp w) : LW D a cp w' := ⟨h.hp.ext x, (h.hd.ext x).mono fun b hb => by have := x.size; omega⟩
theorem TvV.tys {w : World} {t : Ty} {a : Option Addr} {c : Nat} (h : TvV w (.agg (tyc t a c).toArray) t) : TysV w (fun b => b < w.heap.size) a c t.elems := by
  obtain ⟨a', c', e, h⟩ := h.ex
  simp only [Value.agg.injEq, Array.mk.injEq, List.cons.injEq, Value.slice.injEq, true_and, and_true] at e
  obtain ⟨rfl, rfl⟩ := e
  exact h
/-- spec.Valid of one type, of two -/
theorem t_Valid1 {D : List De} {a : Option Addr} {cp : Nat} {w : World} (lw : LW D a cp w) (hwd : wtD D ≤ 1048576) {t : Ty} {v : Value} {a1 : Option Addr} {c1 r : Nat} (hr : Has w r (.cells (tyc t a1 c1).toArray 26)) (hv : v = .agg (tyc t a1 c1).toArray) (T : TvV w v t) (hw : wt t ≤ 16777216) :
    Calls Tryz.prog 16 #[.slice a D.length cp, .slice (some ⟨r, 0, none⟩) 1 1] w (Ret fun q w' => ∃ b, q = .bool b ∧ (b = true → ValidD D ∧ ValidT D t) ∧ Ext w w') := by
  subst hv
  refine (c_Valid (l := [t]) (by omega) (by have := len_wtD D; omega) (by simpa using hw) (by simp) a cp (some ⟨r, 0, none⟩) 1 w (fun b => b < w.heap.size) (fun b hb => hb) lw.hd (tys_one hr hr.lt T.tys)).mono fun e w' ⟨q, he, b, e1, h, x⟩ => ⟨q, he, b, e1, fun hb => ?_, x⟩
  obtain ⟨h1, h2⟩ := h hb
  exact ⟨h1, h2 t (by simp)⟩
theorem t_Valid2 {D : List De} {a : Option Addr} {cp : Nat} {w : World} (lw : LW D a cp w) (hwd : wtD D ≤ 1048576) {t u : Ty} {v v' : Value} {a1 a2 : Option Addr} {c1 c2 r : Nat} (hr : Has w r (.cells (tyc t a1 c1 ++ tyc u a2 c2).toArray 26)) (hv : v = .agg (tyc t a1 c1).toArray) (hv' : v' = .agg (tyc u a2 c2).toArray) (T : TvV w v t) (T' : TvV w v' u) (hw : wt t ≤ 16777216) (hw' : wt u ≤ 16777216) :
    Calls Tryz.prog 16 #[.slice a D.length cp, .slice (some ⟨r, 0, none⟩) 2 2] w (Ret fun q w' => ∃ b, q = .bool b ∧ (b = true → ValidD D ∧ ValidT D t ∧ ValidT D u) ∧ Ext w w') := by
  subst hv hv'
  refine (c_Valid (l := [t, u]) (by omega) (by have := len_wtD D; omega) (by simpa using ⟨hw, hw'⟩) (by simp) a cp (some ⟨r, 0, none⟩) 2 w (fun b => b < w.heap.size) (fun b hb => hb) lw.hd (tys_pair hr hr.lt T.tys T'.tys)).mono fun e w' ⟨q, he, b, e1, h, x⟩ => ⟨q, he, b, e1, fun hb => ?_, x⟩
  obtain ⟨h1, h2⟩ := h hb
  exact ⟨h1, h2 t (by simp), h2 u (by simp)⟩
theorem okD {D : List De} (hV : ValidD D) (hwd : wtD D ≤ 1048576) : OkD D := ⟨hV.sh, by omega, by have := len_wtD D; omega⟩
end Go.Proofs.YtpiegpegjbmlkaaGreatDoor.Law
namespace Go.Proofs.YtpiegpegjbmlkaaGreatDoor
open Go Go.Kd
set_option maxRecDepth 100000

theorem c_sizes (wide : Bool) (n : Int) (w : World) : Calls Tryz.prog 17 #[.bool wide, .int .i64 n] w (Ret fun r w' => ∃ wd mx, OkW wd mx ∧ r = .agg (szl wd mx).toArray ∧ Ext w w') := by
  have hn : n % 5 = 0 ∨ n % 5 = 1 ∨ n % 5 = 2 ∨ n % 5 = 3 ∨ n % 5 = 4 := by omega
  refine W.enter (args := [.bool wide, .int .i64 n]) Tryz.func17 rfl Tryz.ntmps17 rfl rfl ?_
  refine zst ?_
  refine WU.stp rfl rfl rfl stp_alloc ?_
  rintro _ w1 ⟨b4, rfl, n1⟩
  have i4 : Has w1 b4 (.cells (szl 0 0).toArray 30) := n1.has
  have x1 := n1.ext
  have e1 := n1.num
  clear n1
  refine zst ?_
  refine WU.stp rfl rfl rfl (stp_call rfl (Law.c_place n 5 w1 (by omega))) ?_
  rintro _ _ ⟨rfl, rfl⟩
  refine WU.yld rfl rfl rfl (yld_shl rfl rfl (by omega)) ?_
  obtain ⟨mx, hmx, hm⟩ : ∃ mx : Int, IntKind.i64.wrap (1 * 2 ^ min (n % 5).toNat IntKind.i64.bits) = mx ∧ (mx = 1 ∨ mx = 2 ∨ mx = 4 ∨ mx = 8 ∨ mx = 16) := by
    rcases hn with h | h | h | h | h <;> rw [h]
    · exact ⟨1, by decide, by omega⟩
    · exact ⟨2, by decide, by omega⟩
    · exact ⟨4, by decide, by omega⟩
    · exact ⟨8, by decide, by omega⟩
    · exact ⟨16, by decide, by omega⟩
  rw [hmx]
  refine zst ?_
  refine WU.stp rfl rfl rfl stp_alloc ?_
  rintro _ w2 ⟨b5, rfl, n2⟩
  have j4 := i4.ext' n2.ext
  have e2 := n2.num
  have z1 := i4.lt
  have x2 := x1.trans n2.ext
  refine WU.stp0 rfl rfl (stp_store_whole rfl rfl rfl rfl) ?_
  rintro _ w3 u3
  have i5 : Has w3 b5 (.cells (szl 4 mx).toArray 30) := u3.has
  have k4 := u3.keep j4 (by omega)
  have x3 := u3.ext x2 (by omega)
  clear u3 n2
  cases wide
  · refine zst ?_
    refine WU.stp0 rfl rfl (stp_store_whole rfl rfl rfl rfl) ?_
    rintro _ w4 u4
    refine zst ?_
    exact finc (.inl rfl) rfl rfl ⟨4, mx, ⟨.inl rfl, hm⟩, rfl, u4.ext x3 (by omega)⟩
  · refine zst ?_
    refine WU.stp0 rfl rfl (stp_store_cell rfl rfl rfl rfl) ?_
    rintro _ w4 u4
    have l5 : Has w4 b5 (.cells (szl 8 mx).toArray 30) := u4.has
    have l4 := u4.keep k4 (by omega)
    have x4 := u4.ext x3 (by omega)
    clear u4
    refine zst ?_
    refine WU.stp0 rfl rfl (stp_store_whole rfl rfl rfl rfl) ?_
    rintro _ w5 u5
    refine zst ?_
    exact finc (.inl rfl) rfl rfl ⟨8, mx, ⟨.inr rfl, hm⟩, rfl, u5.ext x4 (by omega)⟩
theorem c_original (n : Int) (w : World) : Calls Tryz.prog 29 #[.int .i64 n] w (Ret fun r w' => r = .int .i64 (if n = 18 then 7 else if n = 19 then 4 else n) ∧ w = w') := by
  refine W.enter (args := [.int .i64 n]) Tryz.func29 rfl Tryz.ntmps29 rfl rfl ?_
  refine zst ?_
  by_cases h1 : n = 18
  · rw [show (n == 18) = true by simpa using h1, if_pos h1]
    refine zst ?_
    exact fin1 (.inl rfl) rfl rfl ⟨rfl, rfl⟩
  rw [show (n == 18) = false by simpa using h1, if_neg h1]
  refine zst ?_
  by_cases h2 : n = 19
  · rw [show (n == 19) = true by simpa using h2, if_pos h2]
    refine zst ?_
    exact fin1 (.inl rfl) rfl rfl ⟨rfl, rfl⟩
  rw [show (n == 19) = false by simpa using h2, if_neg h2]
  refine zst ?_
  exact fin1 (.inl rfl) rfl rfl ⟨rfl, rfl⟩
/-! ### Plain -/
def PlC (D : List De) (a : Option Addr) (cp : Nat) (t : Ty) : Prop := ∀ (a1 : Option Addr) (c1 : Nat) (w : World) (p : Nat → Prop), (∀ b, p b → b < w.heap.size) → DsV w p (.slice a D.length cp) D → TysV w p a1 c1 t.elems →
  Calls Tryz.prog 23 #[.slice a D.length cp, .agg (tyc t a1 c1).toArray] w (Ret fun v w' => (∃ q, v = .bool q) ∧ Ext w w')
def PlT (D : List De) (a : Option Addr) (cp : Nat) (u : Ty) : Prop := ∀ (a2 : Option Addr) (c2 : Nat) (w0 w : World) (p : Nat → Prop) (b3 : Nat), (∀ b, p b → b < w.heap.size) → DsV w p (.slice a D.length cp) D → TysV w p a2 c2 u.elems → tyb w b3 u a2 c2 → Ext w0 w →
  ∃ c, dropA 2 (bodyA Tryz.f23) = some c ∧ W Tryz.prog 45 c (fin Tryz.prog Tryz.f23 (Ret fun v w' => (∃ q, v = .bool q) ∧ Ext w0 w')) [] [(0, .slice a D.length cp), (3, pt b3)] w
section
variable {D : List De} {a : Option Addr} {cp : Nat}
theorem PlT.enter (hD : OkD D) {t : Ty} (hG : Good D t) (h : PlT D a cp (underT D t)) : PlC D a cp t := by
  intro a1 c1 w p hp hd ht
  refine W.enter (args := [.slice a D.length cp, .agg (tyc t a1 c1).toArray]) Tryz.func23 rfl Tryz.ntmps23 rfl rfl ?_
  refine zst ?_
  refine WU.stp rfl rfl rfl (by first | exact stp_box rfl rfl | exact stp_box1 rfl rfl) ?_
  rintro _ w2 ⟨b2, rfl, n2⟩
  refine zst ?_
  have e2 := n2.num
  have s2 := n2.size
  have x12 := n2.ext
  refine WU.stp rfl rfl rfl (stp_call rfl (c_Underlying hD hG a cp a1 c1 w2 (fun b hb => by have := hp b hb; omega) (hd.ext x12) (ht.ext x12))) ?_
  rintro _ w3 ⟨a2, c2, rfl, ht3, x3⟩
  have h2 : Has w3 b2 _ := n2.has.ext' x3
  have s3 := x3.size
  refine WU.stp0 rfl rfl (stp_store_whole rfl rfl rfl rfl) ?_
  rintro _ w4 u4
  have s4 := u4.size
  have x04 : Ext w w4 := u4.ext (x12.trans x3) (by omega)
  have ht4 : TysV w4 (btw w2 w3 p) a2 c2 (underT D t).elems := ht3.upd u4 (fun h => by
    rcases h with h | h
    · have := hp _ h; omega
    · omega)
  have hpp : ∀ b, btw w2 w3 p b → b < w4.heap.size := fun b hb => by
    rcases hb with hb | hb
    · have := hp b hb; omega
    · omega
  have hd4 : DsV w4 (btw w2 w3 p) (.slice a D.length cp) D := (hd.ext x04).mono fun b hb => .inl hb
  have j4 : tyb w4 b2 (underT D t) a2 c2 := u4.has
  (repeat ((fail_if_success guard_target =~ gW (.seq (.region 2 _ _) _)); (fail_if_success guard_target =~ gW (.seq (.seq (.region 2 _ _) _) _)); refine zs1 ?_))
  exact W.useA (h a2 c2 w w4 _ b2 hpp hd4 ht4 j4 x04) rfl ⟨rfl, rfl, trivial⟩
theorem PlT.easy {u : Ty} (h : u.kind ≠ 4 ∧ u.kind ≠ 7) : PlT D a cp u := by
  intro a2 c2 w0 w p b3 hp hd ht i3 x0
  refine ⟨_, rfl, ?_⟩
  refine zst ?_
  cases h0 : (u.kind == 0)
  · refine zst ?_
    cases h3 : (u.kind == 3)
    · refine zst ?_
      cases h9 : (u.kind == 9)
      · refine zst ?_
        rw [show (u.kind == 4) = false by simp; omega]
        refine zst ?_
        rw [show (u.kind == 7) = false by simp; omega]
        refine zst ?_
        exact fin1 (.inl rfl) rfl rfl ⟨⟨_, rfl⟩, x0⟩
      · refine zst ?_
        exact fin1 (.inl rfl) rfl rfl ⟨⟨_, rfl⟩, x0⟩
    · refine zst ?_
      exact fin1 (.inl rfl) rfl rfl ⟨⟨_, rfl⟩, x0⟩
  · refine zst ?_
    cases h1 : (u.n != 0)
    · refine zst ?_
      exact fin1 (.inl rfl) rfl rfl ⟨⟨_, rfl⟩, x0⟩
    · refine zst ?_
      cases h2 : (u.n != 16)
      · refine zst ?_
        exact fin1 (.inl rfl) rfl rfl ⟨⟨_, rfl⟩, x0⟩
      · refine zst ?_
        refine WU.stp rfl rfl rfl (stp_call rfl (c_isComplexS u a2 c2 w)) ?_
        rintro _ w2 ⟨rfl, x2⟩
        refine zst ?_
        exact fin1 (.inl rfl) rfl rfl ⟨⟨_, rfl⟩, x0.trans x2⟩
set_option maxHeartbeats 2000000 in
theorem PlT.all {u : Ty} (hk : u.kind = 4 ∨ u.kind = 7) (hlen : u.elems.length ≤ 1073741824) (ih : ∀ (i : Nat) e, u.elems[i]? = some e → PlC D a cp e) : PlT D a cp u := by
  intro a2 c2 w0 w p b3 hp hd ht i3 x0
  refine ⟨_, rfl, ?_⟩
  refine zst ?_
  rw [show (u.kind == 0) = false by simp; omega]
  refine zst ?_
  rw [show (u.kind == 3) = false by simp; omega]
  refine zst ?_
  rw [show (u.kind == 9) = false by simp; omega]
  (repeat ((fail_if_success guard_target =~ gW (.seq (.region 8 _ _) _)); (fail_if_success guard_target =~ gW (.seq (.seq (.region 8 _ _) _) _)); refine zs1 ?_))
  refine W.cut [(30, .bool (u.kind == 4 || u.kind == 7)), (0, .slice a D.length cp), (3, pt b3)] ?_ ?_
  · refine zst ?_
    cases k4 : (u.kind == 4) <;> (
      refine zst ?_
      exact ⟨rfl, rfl, rfl, rfl, rfl, trivial⟩)
  rw [show (u.kind == 4 || u.kind == 7) = true by rcases hk with hk | hk <;> simp [hk]]
  refine zst ?_
  refine W.loop (σ := Nat) (fun k => [(36, .int .i64 k), (35, .int .i64 u.elems.length), (34, .slice a2 u.elems.length c2), (0, .slice a D.length cp), (3, pt b3)])
    (fun k D' wk => D' = [] ∧ k ≤ u.elems.length ∧ Ext w wk) (fun k => u.elems.length - k) 0 ⟨rfl, Nat.zero_le _, Ext.rfl' _⟩ (by exact sub_of ⟨rfl, rfl, rfl, rfl, rfl, trivial⟩) ?_
  rintro k D' wr ⟨rfl, hkl, xr⟩
  have hsz := xr.size
  refine zst ?_
  by_cases hlt : k < u.elems.length
  · rw [show decide ((k : Int) < (u.elems.length : Int)) = true by simpa using hlt]
    have he := List.getElem?_eq_getElem hlt
    generalize u.elems[k] = e at he
    obtain ⟨b, o, a3, c3, rfl, hpb, hc, hte⟩ := ht.next he
    have hc' : Cells wr b (o + k * 8) (tyc e a3 c3) := hc.ext xr
    refine zst ?_
    refine WU.yld rfl rfl rfl (yld_load_cells rfl hc') ?_
    refine WU.stp rfl rfl rfl stp_alloc ?_
    rintro _ w4 ⟨b4, rfl, n3⟩
    refine WU.stp0 rfl rfl (stp_store_whole rfl rfl rfl rfl) ?_
    rintro _ w5 u4
    have x4 : Ext wr w5 := (u4.ofNew n3).ext
    have s5 := x4.size
    have i4 : tyb w5 b4 e a3 c3 := u4.has
    clear u4 n3
    have xx := xr.trans x4
    refine zst ?_
    refine WU.stp rfl rfl rfl (stp_call rfl (ih k e he a3 c3 w5 p (fun b hb => by have := hp b hb; omega) (hd.ext xx) (hte.ext xx))) ?_
    rintro _ w6 ⟨⟨q, rfl⟩, x6⟩
    cases q
    · refine zst ?_
      exact fin1 (.inl rfl) rfl rfl ⟨⟨_, rfl⟩, x0.trans (xx.trans x6)⟩
    · refine zst ?_
      exact ⟨k + 1, by omega, ⟨rfl, by omega, xx.trans x6⟩, sub_of ⟨rfl, rfl, rfl, rfl, rfl, trivial⟩⟩
  · rw [show decide ((k : Int) < (u.elems.length : Int)) = false by simpa using hlt]
    refine zst ?_
    exact fin1 (.inl rfl) rfl rfl ⟨⟨_, rfl⟩, x0.trans xr⟩
end
theorem c_Plain {D : List De} (hD : OkD D) (a : Option Addr) (cp : Nat) {wd mx : Int} {t : Ty} {s al : Int} (h : Sz D wd mx t s al) : Good D t → PlC D a cp t := by
  induction h with
  | basic t hk => exact fun hG => PlT.enter hD hG (.easy (by omega))
  | slice t hk => exact fun hG => PlT.enter hD hG (.easy (by omega))
  | iface t hk => exact fun hG => PlT.enter hD hG (.easy (by omega))
  | word t hk => exact fun hG => PlT.enter hD hG (.easy (by omega))
  | arr t e s al hk he hz ih =>
    intro hG
    have hu := hG.under hD
    refine PlT.enter hD hG (.all (.inl hk) (by rw [he]; simp) fun i e' he' => ?_)
    have h0 := hu.el he'
    rw [he] at he'
    match i with
    | 0 => simp at he'; subst he'; exact ih h0
    | i + 1 => simp at he'
  | str t l hk hl hz ih =>
    intro hG
    have hu := hG.under hD
    have hlen := wt_len (underT D t)
    have hwt := hu.wt
    refine PlT.enter hD hG (.all (.inr hk) (by omega) fun i e he => ?_)
    have hlt := (List.getElem?_eq_some_iff.1 he).1
    exact ih i e _ he (List.getElem?_eq_getElem (by omega)) (hu.el he)
end Go.Proofs.YtpiegpegjbmlkaaGreatDoor
namespace Go.Proofs.YtpiegpegjbmlkaaGreatDoor
open Go Go.Kd
set_option maxRecDepth 100000

theorem dsv_nil (w : World) : DsV w (fun b => b < w.heap.size) (.slice none ([] : List De).length 0) [] := ⟨none, 0, fun _ => [], rfl, fun i hi => by simp at hi, fun i e he => by simp at he⟩
def bsT (n : Int) : Ty := .mk 0 n 0 false [] Law.E0 Law.E0 false
theorem valid_nil : ValidD [] := ⟨fun i e h => by simp at h, fun i e h => by simp at h, fun i e h => by simp at h, fun i e h => by simp at h, fun i e h => by simp at h⟩
theorem valid_bs {n : Int} (h0 : 0 ≤ n) (h1 : n < 22) : ValidT [] (bsT n) := ⟨.mk _ _ ⟨by show (0 : Int) ≤ 0; decide, by show (0 : Int) ≤ 9; decide, fun _ => rfl, fun _ => h0, fun _ => h1, fun h => by simp [bsT, Ty.kind] at h, fun h => by simp [bsT, Ty.kind] at h, fun h => by simp [bsT, Ty.kind] at h, fun h => by simp [bsT, Ty.kind] at h, fun h => by simp [bsT, Ty.kind] at h⟩ fun j e he => by simp [bsT, Ty.elems] at he,
  .mk _ (fun i e he => by simp [bsT, Ty.elems] at he) ⟨fun h => by simp [bsT, Ty.kind] at h, fun h => by simp [bsT, Ty.kind] at h, fun h => by simp [bsT, Ty.kind] at h, fun h => by simp [bsT, Ty.kind] at h, fun h => by simp [bsT, Ty.kind] at h, fun h => by simp [bsT, Ty.kind] at h, fun h => by simp [bsT, Ty.kind] at h, fun h => by simp [bsT, Ty.kind] at h⟩⟩
theorem rng_bs {n : Int} (h1 : n < 22) : Rng (bsT n) := .mk _ (by show n ≤ _; omega) fun i e he => by simp [bsT, Ty.elems] at he
/-- the size of a predeclared type -/
theorem sz_nil {wd mx n : Int} (h0 : 0 ≤ n) (h1 : n < 22) : ∃ s a, Sz [] wd mx (bsT n) s a ∧ (n < 20 → s = sBasic wd (if n = 18 then 7 else if n = 19 then 4 else n)) ∧ (20 ≤ n → s = 2 * wd) := by
  have hn : n = 0 ∨ n = 1 ∨ n = 2 ∨ n = 3 ∨ n = 4 ∨ n = 5 ∨ n = 6 ∨ n = 7 ∨ n = 8 ∨ n = 9 ∨ n = 10 ∨ n = 11 ∨ n = 12 ∨ n = 13 ∨ n = 14 ∨ n = 15 ∨ n = 16 ∨ n = 17 ∨ n = 18 ∨ n = 19 ∨ n = 20 ∨ n = 21 := by omega
  rcases hn with rfl | rfl | rfl | rfl | rfl | rfl | rfl | rfl | rfl | rfl | rfl | rfl | rfl | rfl | rfl | rfl | rfl | rfl | rfl | rfl | rfl | rfl
  all_goals first
    | exact ⟨_, _, .basic _ rfl, fun _ => rfl, fun h => by omega⟩
    | exact ⟨_, _, .iface _ rfl, fun h => by omega, fun _ => rfl⟩
theorem wt_bs (n : Int) : wt (bsT n) = 1 := by rw [wt_eq]; rfl
theorem tys_bs (w : World) (n : Int) : TysV w (fun b => b < w.heap.size) none 0 (bsT n).elems := ⟨Nat.le_refl _, fun _ => [], fun i hi => by simp [bsT, Ty.elems] at hi, fun i e he => by simp [bsT, Ty.elems] at he⟩
/-- Sizeof of a predeclared type -/
theorem t_basSize {w : World} {wd mx n : Int} (hp : Prp w) (hbz : Bsz w) (hW : OkW wd mx) (h0 : 0 ≤ n) (h1 : n < 22) : Calls Tryz.prog 26 #[.slice none 0 0, .int .i64 wd, .int .i64 mx, tyv 0 n 0 false (.slice none 0 0) Law.E0 Law.E0 false] w
    (Ret fun r w' => (∃ s, r = .int .i64 s ∧ (n < 20 → s = sBasic wd (if n = 18 then 7 else if n = 19 then 4 else n)) ∧ (20 ≤ n → s = 2 * wd)) ∧ Ext w w') := by
  obtain ⟨s, al, hz, k1, k2⟩ := sz_nil (wd := wd) (mx := mx) h0 h1
  have hw := hW.wd
  refine (c_iSizeof (D := []) (t := bsT n) (a := none) (cp := 0) (a1 := none) (c1 := 0) hp hbz hW valid_nil (valid_bs h0 h1) (by decide) (by rw [wt_bs]; decide) (fun e he => by cases he) (rng_bs h1) hz (dsv_nil w) (tys_bs w n)).mono fun e w' ⟨r, he, ⟨z, hr, hzz, _⟩, x⟩ => ⟨r, he, ⟨s, ?_, k1, k2⟩, x⟩
  have : 1 ≤ s := by
    by_cases hn : n < 20
    · rw [k1 hn]; exact (sBasic_ok hw _).1
    · rw [k2 (by omega)]; omega
  rw [hr]
  unfold alikeS at hzz
  rw [show z = s by omega]
theorem t_intSize {w : World} {wd mx : Int} (hp : Prp w) (hbz : Bsz w) (hW : OkW wd mx) : Calls Tryz.prog 26 #[.slice none 0 0, .int .i64 wd, .int .i64 mx, tyv 0 1 0 false (.slice none 0 0) Law.E0 Law.E0 false] w (Ret fun r w' => r = .int .i64 wd ∧ Ext w w') :=
  (t_basSize hp hbz hW (by decide) (by decide)).mono fun e w' ⟨r, he, ⟨s, hr, k1, _⟩, x⟩ => ⟨r, he, by rw [hr, k1 (by decide)]; rfl, x⟩
end Go.Proofs.YtpiegpegjbmlkaaGreatDoor
namespace Go.Proofs.YtpiegpegjbmlkaaGreatDoor
open Go Go.ChangeShapes Go.WideShapes Go.ChangeAt Go.RowKit
set_option maxRecDepth 100000

theorem own : ownKnob Tryz.prog.godebug = none := by kernel_rfl
theorem laidOut : laidOutB Tryz.prog = true := by kernel_rfl

abbrev theLaid : List (String × DataW Unit) := Rows.fnAlignPartsRow.laid

noncomputable def wit (os : Os) : World := World.laidAll Tryz.prog os theLaid

theorem wit_fits (os : Os) : (World.holding Tryz.prog os ⟨#[], #[], []⟩).layFits Tryz.prog theLaid [] = true := by kernel_rfl
theorem wit_ifaces (os : Os) : (World.holding Tryz.prog os ⟨#[], #[], []⟩).layIfaces Tryz.prog theLaid (World.laidAll Tryz.prog os theLaid) = true := by kernel_rfl
theorem wit_laid (os : Os) (args : Array Value) : laidMet Tryz.prog theLaid ((wit os).forCall (fun _ _ => 0) ⟨#[], args, []⟩).memory :=
  laidMet_laidAll args (wit_fits os) (wit_ifaces os)
theorem wit_shaped (os : Os) (args : Array Value) : ((wit os).forCall (fun _ _ => 0) ⟨#[], args, []⟩).Shaped Tryz.prog :=
  World.shaped_of_ZipB (by kernel_rfl) (by kernel_rfl)

theorem witness_row_shaped {H : Type} {enc : TypeId × Value → H} {C : Checked} {os : Os} {f : FuncId} {fn : Func} {s : OpenSpec} {conds : List PathCond} {apart : Bool} {laid : List (String × DataW Unit)} (modest : Bool) (w0 : World) (args : Array Value) (hos : w0.os = os)
    (hsh : (w0.forCall (fun _ _ => 0) ⟨#[], args, []⟩).Shaped C.prog)
    (hok : Input.okWideB C.prog (w0.forCall (fun _ _ => 0) ⟨#[], args, []⟩) f ⟨#[], args, []⟩ = true)
    (hrow : s.preRow enc C.prog fn conds apart laid (w0.forCall (fun _ _ => 0) ⟨#[], args, []⟩).memory args) :
    ∃ (w : World) (tape : Tape) (i : Input), w.os = os ∧ (w.forCall tape i).Shaped C.prog ∧ i.vars = [] ∧ Input.okWide C.prog (w.forCall tape i) .any w.heap.size f i ∧
      s.preRow enc C.prog fn conds apart laid (w.forCall tape i).memory i.args ∧ ({ modest := modest } : Assume).holds C.prog (lone (Frame.enter C.prog f i.args .normal) [] (w.forCall tape i)) :=
  ⟨w0, fun _ _ => 0, ⟨#[], args, []⟩, hos, hsh, (Input.okWide_of_okWideB (base := 0) hok).1, (Input.okWide_of_okWideB hok).2, hrow, by
    simp only [Assume.holds]
    exact ⟨by simp, by simp, fun _ => Modest.zero, by simp, by simp⟩⟩

/-- the arguments read as they did -/
theorem stays {H : Type} {enc : TypeId × Value → H} {P : Program} (hl : laidOutB P = true) {W W' : World} (hb : Below W.heap.size W W') :
    ∀ (ts : List TypeId) (vs : List Value) (ds : List (DataW H)) (ps : List MemPlace), (ts.all fun t => P.readableRec t && decide (t < P.types.size)) = true → DataW.TrodAll enc P W 0 (fun _ => true) true ts vs ds ps →
    (∀ x ∈ ps, x.block < W.heap.size) → DataW.TrodAll enc P W' 0 (fun b => decide (b < W.heap.size)) true ts vs ds ps
  | [], _, _, _, _, h, _ => by
    obtain ⟨rfl, rfl, rfl⟩ := trodAll_nil h
    exact trodAll_mk0
  | t :: ts, _, _, _, ht, h, hp => by
    obtain ⟨v, vs', d, ds', p, q, rfl, rfl, rfl, h1, h2⟩ := trodAll_cons h
    simp only [List.all_cons, Bool.and_eq_true, decide_eq_true_eq] at ht
    exact trodAll_cons_mk (Below.trod hl ht.1.1 ht.1.2 h1 hb (fun x hx => hp x (List.mem_append_left _ hx)))
      (stays hl hb ts vs' ds' q ht.2 h2 (fun x hx => hp x (List.mem_append_right _ hx)))

/-- a law's post-condition, behind a call that left what was there as it was -/
theorem law_post {H : Type} {enc : TypeId × Value → H} {P : Program} {f : Func} {s : ChangeSpec} {W W' : World} {args : Array Value} {ds gs : List (DataW H)} {before : List MemPlace} {tb : TypeId}
    (hl : laidOutB P = true) (hv : s.vars = []) (hr : f.resultTypes = #[tb]) (htb : P.underlying tb = some .bool) (hps : (f.params.toList.all fun t => P.readableRec t && decide (t < P.types.size)) = true)
    (hW : DataW.Whole enc P f.params.toList s.vars false W args.toList ds gs before) (hf : s.fn H (ds ++ gs) = { results := [.lit (.bool true)], args := ds, vars := [] }) (hx : Kd.Ext W W') :
    s.post enc P f false true false false W args (.bool true) W' := by
  have hlt := fun x hx => hW.lt x hx
  have hW' := hW
  obtain ⟨p, q, hA, hV, rfl, _, _⟩ := hW
  rw [hv] at hV
  obtain ⟨rfl, rfl⟩ := trodVars_none hV
  refine ⟨ds, [], p ++ [], [], p, [], hW', ?_, ?_, ?_, hx.below.frame _, fun h => by cases h⟩
  · rw [hr, hf]; exact trodAll_cons_mk (shut_bool htb _) trodAll_mk0
  · rw [hf]; exact stays hl hx.below _ _ _ _ hps hA (fun x hx => hlt x (List.mem_append_left _ hx))
  · rw [hv, hf]; rfl
end Go.Proofs.YtpiegpegjbmlkaaGreatDoor
namespace Go.Proofs.YtpiegpegjbmlkaaGreatDoor
open Go Go.Kd Go.ChangeShapes Go.WideShapes Go.ChangeAt Go.RowKit
set_option maxRecDepth 100000

def nums : DataW Unit → List Int
  | .agg l => l.map fun d => match d with | .lit (.int _ z) => z | _ => 0
  | _ => []
def prpOk (zs : List Int) : Bool := (List.range 128).all fun n => match zs[n]? with
  | some (.ofNat v) => decide (v < 256) && (decide (v &&& 96 = 32) == (decide (65 ≤ n) && decide (n ≤ 90)))
  | _ => false
theorem prp_laid {W : World} (h : laidMetH Tryz.prog theLaid W) : Prp W := by
  have h : laidMet Tryz.prog theLaid W := h
  obtain ⟨ps, ⟨_, _, _, _, _, _, _, _, _, _, h2, _⟩, _⟩ := h
  obtain ⟨g, t, cs, fuel, p, q, hg, ht, hvar, hd, _, _⟩ := h2
  have hg0 : Tryz.prog.globalNamed "unicode.properties" = some gP := by kernel_rfl
  obtain rfl := Option.some.inj (hg0.symm.trans hg)
  have hty : (Tryz.prog.globals[gP]?).map (·.type) = some 347 := by kernel_rfl
  obtain rfl := Option.some.inj (hty.symm.trans ht)
  have hcs := Lib.cells_of_tab (k := .u8) (zs := nums Rows.laid_unicode_properties) Tryz.underlying347 Tryz.underlying5 (by kernel_rfl) (by kernel_rfl) hd
  have hok : prpOk (nums Rows.laid_unicode_properties) = true := by kernel_rfl
  unfold World.var? at hvar
  rw [hg0] at hvar
  simp only [Option.bind_some] at hvar
  split at hvar
  · rename_i cs' t' fz hh
    have e : cs' = cs := Option.some.inj hvar
    refine ⟨cs', t', fz, hh, fun n hn => ?_⟩
    have h3 := List.all_eq_true.1 hok n (List.mem_range.2 hn)
    have h4 : cs'[n]? = ((nums Rows.laid_unicode_properties).map fun z => Value.int .u8 z)[n]? := by rw [e, ← hcs]; simp
    rw [h4, List.getElem?_map]
    split at h3
    · rename_i v hv
      rw [hv]
      simp only [Bool.and_eq_true, decide_eq_true_eq, beq_iff_eq] at h3
      refine ⟨v, rfl, h3.1, ?_⟩
      have h5 := h3.2
      constructor
      · intro h6
        rw [decide_eq_true h6] at h5
        simpa using h5.symm
      · intro h6
        rw [decide_eq_true h6.1, decide_eq_true h6.2] at h5
        simpa using h5
    · cases h3
  · cases hvar
theorem small_of {H : Type} {l : List (DataW H)} (h : Rows.uptoSmall H l = true) : Rows.uptoBulkAll l ≤ 1048576 := of_decide_eq_true h
end Go.Proofs.YtpiegpegjbmlkaaGreatDoor
namespace Go.Proofs.YtpiegpegjbmlkaaGreatDoor
open Go Go.Kd Go.ChangeShapes Go.WideShapes Go.ChangeAt Go.RowKit
set_option maxRecDepth 100000

theorem bsz_laid {W : World} (h : laidMetH Tryz.prog theLaid W) : Bsz W := by
  have h : laidMet Tryz.prog theLaid W := h
  obtain ⟨ps, ⟨_, _, _, _, _, _, _, _, _, _, h2, _⟩, _⟩ := h
  obtain ⟨_, _, _, _, _, _, _, _, _, _, h3, _⟩ := h2
  obtain ⟨_, _, _, _, _, _, _, _, _, _, h4, _⟩ := h3
  obtain ⟨_, _, _, _, _, _, _, _, _, _, h5, _⟩ := h4
  obtain ⟨g, t, cs, fuel, p, q, hg, ht, hvar, hd, _, _⟩ := h5
  have hg0 : Tryz.prog.globalNamed "kindred/pub/gotypes.basicSizes" = some gB := by kernel_rfl
  obtain rfl := Option.some.inj (hg0.symm.trans hg)
  have hty : (Tryz.prog.globals[gB]?).map (·.type) = some 140 := by kernel_rfl
  obtain rfl := Option.some.inj (hty.symm.trans ht)
  have hcs := Lib.cells_of_tab (k := .u8) (zs := nums Rows.laid_kindred_pub_gotypes_basicSizes) Tryz.underlying140 Tryz.underlying5 (by kernel_rfl) (by kernel_rfl) hd
  have hok : nums Rows.laid_kindred_pub_gotypes_basicSizes = bsz := by kernel_rfl
  unfold World.var? at hvar
  rw [hg0] at hvar
  simp only [Option.bind_some] at hvar
  split at hvar
  · rename_i cs' t' fz hh
    have e : cs' = cs := Option.some.inj hvar
    intro i z hi
    have h6 : cs'[i]? = ((nums Rows.laid_kindred_pub_gotypes_basicSizes).map fun z => Value.int .u8 z)[i]? := by rw [e, ← hcs]; simp
    rw [hok, List.getElem?_map, hi] at h6
    simp only [World.cell?, hh, Option.map_some] at h6 ⊢
    simpa using h6
  · cases hvar
end Go.Proofs.YtpiegpegjbmlkaaGreatDoor

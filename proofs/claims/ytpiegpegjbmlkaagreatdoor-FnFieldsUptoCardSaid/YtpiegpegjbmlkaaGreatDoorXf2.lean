/- The walks and the plain laws, part 2. -/
import Derived.Test.YtpiegpegjbmlkaaGreatDoorXf1
import Derived.IntWalk
import Derived.Laws.Externs
import Derived.Lib.Bytealg
import Derived.Laws.StructEq
import Derived.Shelf.SlSortCmp.NoneTotal
import Derived.Ground.SlsfProg
import Derived.RangeFuncRecord
namespace Go.Proofs.YtpiegpegjbmlkaaGreatDoor
open Go Go.Kd
set_option maxRecDepth 100000


theorem c_Unalias {D : List De} (hD : OkD D) {t : Ty} (hG : Good D t) (a : Option Addr) (cp : Nat) (a1 : Option Addr) (c1 : Nat) (w : World) {p : Nat → Prop} (hd : DsV w p (.slice a D.length cp) D) (ht : TysV w p a1 c1 t.elems) :
    Calls Tryz.prog 87 #[.slice a D.length cp, .agg (tyc t a1 c1).toArray] w
      (Ret fun r w' => ∃ a2 c2, r = .agg (tyc (unaliasT D t) a2 c2).toArray ∧ TysV w p a2 c2 (unaliasT D t).elems ∧ Ext w w') := by
  refine W.enter (args := [.slice a D.length cp, .agg (tyc t a1 c1).toArray]) Tryz.func87 rfl Tryz.ntmps87 rfl rfl ?_
  refine zst ?_
  refine WU.stp rfl rfl rfl (by first | exact stp_box rfl rfl | exact stp_box1 rfl rfl) ?_
  rintro _ w1 ⟨b1, rfl, n1⟩
  refine WU.stp rfl rfl rfl stp_alloc ?_
  rintro _ w2 ⟨b2, rfl, n2⟩
  refine zst ?_
  have e1 := n1.num
  have e2 := n2.num
  have s1 := n1.size
  have h1 : Has w2 b1 _ := n1.has.ext' n2.ext
  refine W.loop (σ := Nat) (fun k => [(7, .int .i64 k), (6, .int .i64 D.length), (4, .pointer (some ⟨b2, 0, none⟩)), (3, .pointer (some ⟨b1, 0, none⟩)), (0, .slice a D.length cp)])
    (fun k D' w' => D' = [] ∧ k ≤ D.length ∧ Ext w w' ∧ Has w' b2 (.cells (tyl 0 0 0 false (.slice none 0 0) eB eB false).toArray 26) ∧
      ∃ a2 c2, Has w' b1 (.cells (tyc (rep (unal1 D) k t) a2 c2).toArray 26) ∧ TysV w p a2 c2 (rep (unal1 D) k t).elems)
    (fun k => D.length - k) 0 ⟨rfl, Nat.zero_le _, n1.ext.trans n2.ext, n2.has, a1, c1, h1, ht⟩ (by exact sub_of ⟨rfl, rfl, rfl, rfl, rfl, trivial⟩) ?_
  have l2 : w.heap.size ≤ b2 ∧ b1 < b2 := by omega
  clear h1 n1 n2 s1
  rintro k D' wr ⟨rfl, hk, xr, h2, a2, c2, h1, hu⟩
  have hGk := hG.rep_unal hD k
  have hnx : rep (unal1 D) (k + 1) t = unal1 D (rep (unal1 D) k t) := rfl
  refine zst ?_
  by_cases hlt : k < D.length
  · rw [show decide ((k : Int) < (D.length : Int)) = true by simpa using hlt]
    have hb1 := h1.lt
    generalize rep (unal1 D) k t = u at hGk hnx h1 hu
    refine zst ?_
    cases h3 : (u.kind == 1)
    · have hn : unal1 D u = u := unal1_id (isAl_lit (by simpa using h3))
      refine zst ?_
      refine WU.yld rfl rfl rfl (ya rfl rfl (by have := hD.len; omega)) ?_
      refine zst ?_
      exact ⟨k + 1, by omega, ⟨rfl, by omega, xr, h2, a2, c2, by rw [hnx, hn]; exact h1, by rw [hnx, hn]; exact hu⟩, sub_of ⟨rfl, rfl, rfl, rfl, rfl, trivial⟩⟩
    have hk1 : u.kind = 1 := by simpa using h3
    obtain ⟨e, he⟩ := hGk.decl hk1
    obtain ⟨hn0, hn1⟩ := hGk.named hk1
    obtain ⟨b, o, a3, c3, a4, c4, f, rfl, _, hc, hte, _⟩ := hd.next he
    have hc' : Cells wr b (o + u.n.toNat * 12) (del e a3 c3 a4 c4) := hc.ext xr
    refine zst ?_
    refine WU.yld rfl rfl rfl (yld_load_cellsI rfl hc' rfl) ?_
    refine zst ?_
    have hun : unal1 D u = if e.al then e.ty else u := by unfold unal1 decl; rw [if_pos hk1, he]
    cases h4 : e.al
    · rw [h4] at hun
      refine zst ?_
      refine WU.yld rfl rfl rfl (ya rfl rfl (by have := hD.len; omega)) ?_
      refine zst ?_
      exact ⟨k + 1, by omega, ⟨rfl, by omega, xr, h2, a2, c2, by rw [hnx, hun]; exact h1, by rw [hnx, hun]; exact hu⟩, sub_of ⟨rfl, rfl, rfl, rfl, rfl, trivial⟩⟩
    · rw [h4] at hun
      refine zst ?_
      refine WU.yld rfl rfl rfl (yld_load_cells rfl (Cells.ty_of hc')) ?_
      refine WU.stp0 rfl rfl (stp_store_whole rfl rfl rfl rfl) ?_
      rintro _ w3 u3
      refine zst ?_
      refine WU.yld rfl rfl rfl (ya rfl rfl (by have := hD.len; omega)) ?_
      refine zst ?_
      exact ⟨k + 1, by omega, ⟨rfl, by omega, u3.ext xr (by omega), u3.keep h2 (by omega), a3, c3, by rw [hnx, hun]; exact u3.has, by rw [hnx, hun]; exact hte⟩, sub_of ⟨rfl, rfl, rfl, rfl, rfl, trivial⟩⟩
  · rw [show decide ((k : Int) < (D.length : Int)) = false by simpa using hlt]
    obtain rfl : k = D.length := by omega
    have hfin : unaliasT D t = norm (rep (unal1 D) D.length t) := rfl
    have hb1 := h1.lt
    generalize rep (unal1 D) D.length t = u at hGk hnx h1 hu hfin
    rw [hfin]
    refine zst ?_
    cases h3 : (u.kind == 0)
    · rw [norm_named (by simpa using h3)]
      refine zst ?_
      rw [h3]
      refine zst ?_
      rw [h3]
      refine zst ?_
      refine WU.stp0 rfl rfl (stp_store_whole rfl rfl rfl rfl) ?_
      rintro _ w3 u3
      refine zst ?_
      exact finc (.inl rfl) rfl rfl ⟨a2, c2, rfl, hu, u3.ext xr (by omega)⟩
    have hk0 : u.kind = 0 := by simpa using h3
    refine zst ?_
    unfold norm
    rw [if_pos hk0]
    cases h4 : (u.n == 18)
    · rw [if_neg (by simpa using h4)]
      refine zst ?_
      rw [h3]
      refine zst ?_
      cases h5 : (u.n == 19)
      · rw [if_neg (by simpa using h5)]
        refine zst ?_
        rw [h3]
        refine zst ?_
        cases h6 : (u.n == 21)
        · rw [if_neg (by simpa using h6)]
          refine zst ?_
          refine WU.stp0 rfl rfl (stp_store_whole rfl rfl rfl rfl) ?_
          rintro _ w3 u3
          refine zst ?_
          exact finc (.inl rfl) rfl rfl ⟨a2, c2, rfl, hu, u3.ext xr (by omega)⟩
        · rw [if_pos (by simpa using h6)]
          refine zst ?_
          refine WU.stp rfl rfl rfl (stp_call rfl (c_anyType wr)) ?_
          rintro _ w4 ⟨rfl, x4⟩
          refine WU.stp0 rfl rfl (stp_store_whole rfl rfl rfl rfl) ?_
          rintro _ w3 u3
          refine zst ?_
          exact finc (.inl rfl) rfl rfl ⟨none, 0, rfl, TysV.nil, u3.ext (xr.trans x4) (by omega)⟩
      · rw [if_pos (by simpa using h5)]
        refine zst ?_
        refine WU.stp0 rfl rfl (stp_store_cell rfl rfl rfl rfl) ?_
        rintro _ w3 u3
        have h2' := u3.keep h2 (by omega)
        refine zst ?_
        refine WU.stp0 rfl rfl (stp_store_whole rfl rfl rfl rfl) ?_
        rintro _ w4 u4
        refine zst ?_
        have x3 : Ext w w3 := u3.ext xr (by omega)
        exact finc (.inl rfl) rfl rfl ⟨a2, c2, by cases u; rfl, by cases u; exact hu, u4.ext x3 (by omega)⟩
    · rw [if_pos (by simpa using h4)]
      refine zst ?_
      refine WU.stp0 rfl rfl (stp_store_cell rfl rfl rfl rfl) ?_
      rintro _ w3 u3
      have h2' := u3.keep h2 (by omega)
      refine zst ?_
      refine WU.stp0 rfl rfl (stp_store_whole rfl rfl rfl rfl) ?_
      rintro _ w4 u4
      refine zst ?_
      have x3 : Ext w w3 := u3.ext xr (by omega)
      exact finc (.inl rfl) rfl rfl ⟨a2, c2, by cases u; rfl, by cases u; exact hu, u4.ext x3 (by omega)⟩

theorem c_Underlying {D : List De} (hD : OkD D) {t : Ty} (hG : Good D t) (a : Option Addr) (cp : Nat) (a1 : Option Addr) (c1 : Nat) (w : World) {p : Nat → Prop} (hp : ∀ b, p b → b < w.heap.size) (hd : DsV w p (.slice a D.length cp) D) (ht : TysV w p a1 c1 t.elems) :
    Calls Tryz.prog 46 #[.slice a D.length cp, .agg (tyc t a1 c1).toArray] w
      (Ret fun r w' => ∃ a2 c2, r = .agg (tyc (underT D t) a2 c2).toArray ∧ TysV w' (btw w w' p) a2 c2 (underT D t).elems ∧ Ext w w') := by
  refine W.enter (args := [.slice a D.length cp, .agg (tyc t a1 c1).toArray]) Tryz.func46 rfl Tryz.ntmps46 rfl rfl ?_
  refine zst ?_
  refine WU.stp rfl rfl rfl (by first | exact stp_box rfl rfl | exact stp_box1 rfl rfl) ?_
  rintro _ w1 ⟨b1, rfl, n1⟩
  refine WU.stp rfl rfl rfl stp_alloc ?_
  rintro _ w2 ⟨b2, rfl, n2⟩
  refine zst ?_
  have e1 := n1.num
  have e2 := n2.num
  have s1 := n1.size
  have l2 : w.heap.size ≤ b2 ∧ b1 < b2 := by omega
  have x2 : Ext w w2 := n1.ext.trans n2.ext
  have h1 : Has w2 b1 _ := n1.has.ext' n2.ext
  have np1 : ¬ p b1 := fun h => by have := hp _ h; omega
  refine WU.stp rfl rfl rfl (stp_call rfl (c_Unalias hD hG a cp a1 c1 w2 (hd.ext x2) (ht.ext x2))) ?_
  rintro _ w3 ⟨a2, c2, rfl, ht3, x3⟩
  refine WU.stp0 rfl rfl (stp_store_whole rfl rfl rfl rfl) ?_
  rintro _ w4 u4
  refine zst ?_
  have x4 : Ext w w4 := u4.ext (x2.trans x3) (by omega)
  have h4 : Has w4 b2 _ := u4.keep (n2.has.ext' x3) (by omega)
  refine W.loop (σ := Nat) (fun k => [(10, .int .i64 k), (9, .int .i64 D.length), (4, .pointer (some ⟨b2, 0, none⟩)), (3, .pointer (some ⟨b1, 0, none⟩)), (0, .slice a D.length cp)])
    (fun k D' w' => D' = [] ∧ k ≤ D.length ∧ Ext w w' ∧ Has w' b2 (.cells (tyl 0 0 0 false (.slice none 0 0) eB eB false).toArray 26) ∧
      ∃ a2 c2, Has w' b1 (.cells (tyc (rep (und1 D) k (unaliasT D t)) a2 c2).toArray 26) ∧ TysV w' p a2 c2 (rep (und1 D) k (unaliasT D t)).elems)
    (fun k => D.length - k) 0 ⟨rfl, Nat.zero_le _, x4, h4, a2, c2, u4.has, (ht3.ext x3).upd u4 np1⟩ (by exact sub_of ⟨rfl, rfl, rfl, rfl, rfl, trivial⟩) ?_
  clear h1 n1 n2 s1 h4 x4 u4 x3 ht3 x2
  rintro k D' wr ⟨rfl, hk, xr, h2, a2, c2, h1, hu⟩
  have hGk := (hG.unalias hD).rep_und hD k
  have hnx : rep (und1 D) (k + 1) (unaliasT D t) = und1 D (rep (und1 D) k (unaliasT D t)) := rfl
  refine zst ?_
  by_cases hlt : k < D.length
  · rw [show decide ((k : Int) < (D.length : Int)) = true by simpa using hlt]
    have hb1 := h1.lt
    generalize rep (und1 D) k (unaliasT D t) = u at hGk hnx h1 hu
    refine zst ?_
    cases h3 : (u.kind == 1)
    · have hn : und1 D u = u := und1_lit (by simpa using h3)
      refine zst ?_
      refine WU.yld rfl rfl rfl (ya rfl rfl (by have := hD.len; omega)) ?_
      refine zst ?_
      exact ⟨k + 1, by omega, ⟨rfl, by omega, xr, h2, a2, c2, by rw [hnx, hn]; exact h1, by rw [hnx, hn]; exact hu⟩, sub_of ⟨rfl, rfl, rfl, rfl, rfl, trivial⟩⟩
    have hk1 : u.kind = 1 := by simpa using h3
    obtain ⟨e, he⟩ := hGk.decl hk1
    obtain ⟨hn0, hn1⟩ := hGk.named hk1
    obtain ⟨b, o, a3, c3, a4, c4, f, rfl, _, hc, hte, _⟩ := hd.next he
    have hc' : Cells wr b (o + u.n.toNat * 12) (del e a3 c3 a4 c4) := hc.ext xr
    refine zst ?_
    refine WU.yld rfl rfl rfl (yld_load_cells rfl (Cells.ty_of hc')) ?_
    refine WU.stp rfl rfl rfl (stp_call rfl (c_Unalias hD (Good.of_D hD he) _ cp a3 c3 wr (hd.ext xr) (hte.ext xr))) ?_
    rintro _ w3 ⟨a5, c5, rfl, ht3, x3⟩
    refine WU.stp0 rfl rfl (stp_store_whole rfl rfl rfl rfl) ?_
    rintro _ w4 u4
    refine zst ?_
    have hun : und1 D u = unaliasT D e.ty := und1_nm hk1 he
    refine WU.yld rfl rfl rfl (ya rfl rfl (by have := hD.len; omega)) ?_
    refine zst ?_
    exact ⟨k + 1, by omega, ⟨rfl, by omega, u4.ext (xr.trans x3) (by omega), u4.keep (h2.ext' x3) (by omega), a5, c5, by rw [hnx, hun]; exact u4.has, by rw [hnx, hun]; exact (ht3.ext x3).upd u4 np1⟩, sub_of ⟨rfl, rfl, rfl, rfl, rfl, trivial⟩⟩
  · rw [show decide ((k : Int) < (D.length : Int)) = false by simpa using hlt]
    obtain rfl : k = D.length := by omega
    have hfin : underT D t = errN (rep (und1 D) D.length (unaliasT D t)) := rfl
    have hb1 := h1.lt
    generalize rep (und1 D) D.length (unaliasT D t) = u at hGk hnx h1 hu hfin
    rw [hfin]
    have hs := xr.size
    refine zst ?_
    unfold errN
    cases h3 : (u.kind == 0)
    · rw [if_neg (by simp at h3; omega)]
      refine zst ?_
      refine WU.stp0 rfl rfl (stp_store_whole rfl rfl rfl rfl) ?_
      rintro _ w3 u3
      refine zst ?_
      exact finc (.inl rfl) rfl rfl ⟨a2, c2, rfl, (hu.upd u3 (fun h => by have := hp _ h; omega)).mono (fun b hb => .inl hb), u3.ext xr (by omega)⟩
    refine zst ?_
    cases h4 : (u.n == 20)
    · rw [if_neg (by simp at h4; omega)]
      refine zst ?_
      refine WU.stp0 rfl rfl (stp_store_whole rfl rfl rfl rfl) ?_
      rintro _ w3 u3
      refine zst ?_
      exact finc (.inl rfl) rfl rfl ⟨a2, c2, rfl, (hu.upd u3 (fun h => by have := hp _ h; omega)).mono (fun b hb => .inl hb), u3.ext xr (by omega)⟩
    · rw [if_pos (by simp at h3 h4; omega)]
      have hb2 := h2.lt
      refine zst ?_
      refine WU.stp rfl rfl rfl (stp_call rfl (c_errorInterface wr)) ?_
      rintro _ w5 ⟨a5, c5, rfl, ht5, x5⟩
      have h2' : Has w5 b2 _ := h2.ext' x5
      refine WU.stp0 rfl rfl (stp_store_whole rfl rfl rfl rfl) ?_
      rintro _ w3 u3
      refine zst ?_
      have hs3 := u3.size
      refine finc (.inl rfl) rfl rfl ⟨a5, c5, rfl, (ht5.upd u3 (fun h => by omega)).mono (fun b hb => .inr ⟨by omega, by omega⟩), u3.ext (xr.trans x5) (by omega)⟩

/-- a field of a struct in hand, of one cell -/
theorem yld_field1 {P : Program} {e : Env} {w : World} {d : Option Tmp} {ty t : TypeId} {pos : String} {aft : Array Edge} {g : Option (Nat × Bool)} {x : Operand} {f off : Nat} {fs : Array Field} {fd : Field} {l : List Value} {v : Value}
    (hu : P.underlying t = some (.struct fs)) (hf : fs[f]? = some fd) (ho : fd.offset = off) (ft : Nat) [hs : Scl P ft] (hft : fd.type = ft) (hx : ev e x = some (.agg l.toArray)) (hv : getO l off = some v) : Yld P e ⟨d, .field t x f, ty, pos, aft, g⟩ v w := ⟨fun ρ hρ w' _ => by
  subst hft
  obtain ⟨D, j, h2, h3, h4, h5⟩ := hs.at_
  have hag : (isAgg fd.type).run P w' = .ok false w' := by
    unfold isAgg; rw [Sem.run_bind, run_underlying h2]; cases D <;> first | rfl | (exact h3.elim)
  have hv' : l[off]? = some v := by rw [← getO_eq]; exact hv
  have hp : (part fd.type l.toArray off).run P w' = .ok v w' := by
    unfold part
    rw [Sem.run_bind, hag]
    simp [hv']
  simp [execOp, hρ x _ hx, Instr.field, run_underlying hu, hf, ho, hp, asAgg]⟩

theorem c_IsInterface {D : List De} (hD : OkD D) {t : Ty} (hG : Good D t) (a : Option Addr) (cp : Nat) (a1 : Option Addr) (c1 : Nat) (w : World) {p : Nat → Prop} (hp : ∀ b, p b → b < w.heap.size) (hd : DsV w p (.slice a D.length cp) D) (ht : TysV w p a1 c1 t.elems) :
    Calls Tryz.prog 94 #[.slice a D.length cp, .agg (tyc t a1 c1).toArray] w (Ret fun r w' => r = .bool (isIfaceT D t) ∧ Ext w w') := by
  refine W.enter (args := [.slice a D.length cp, .agg (tyc t a1 c1).toArray]) Tryz.func94 rfl Tryz.ntmps94 rfl rfl ?_
  refine zst ?_
  refine WU.stp rfl rfl rfl (by first | exact stp_box rfl rfl | exact stp_box1 rfl rfl) ?_
  rintro _ w1 ⟨b1, rfl, n1⟩
  refine zst ?_
  refine WU.stp rfl rfl rfl (stp_call rfl (c_Underlying hD hG a cp a1 c1 w1 (fun b hb => by have := hp b hb; have := n1.size; omega) (hd.ext n1.ext) (ht.ext n1.ext))) ?_
  rintro _ w3 ⟨a2, c2, rfl, ht3, x3⟩
  refine WU.yld rfl rfl rfl (yld_field1 Tryz.underlying26 rfl rfl 23 rfl rfl rfl) ?_
  refine zst ?_
  exact fin1 (.inl rfl) rfl rfl ⟨rfl, n1.ext.trans x3⟩

theorem c_isUnsafePointer (u : Ty) (a1 : Option Addr) (c1 : Nat) (w : World) :
    Calls Tryz.prog 67 #[.agg (tyc u a1 c1).toArray] w (Ret fun r w' => r = .bool (u.kind == 0 && u.n == 17) ∧ Ext w w') := by
  refine W.enter (args := [.agg (tyc u a1 c1).toArray]) Tryz.func67 rfl Tryz.ntmps67 rfl rfl ?_
  refine zst ?_
  refine WU.stp rfl rfl rfl (by first | exact stp_box rfl rfl | exact stp_box1 rfl rfl) ?_
  rintro _ w1 ⟨b1, rfl, n1⟩
  refine zst ?_
  cases h3 : (u.kind == 0) <;> (refine zst ?_; exact fin1 (.inl rfl) rfl rfl ⟨rfl, n1.ext⟩)

theorem c_elems (k : Int) (w : World) : Calls Tryz.prog 58 #[.int .i64 k] w (Ret fun r w' => r = .int .i64 (elemsN k) ∧ w = w') := by
  refine W.enter (args := [.int .i64 k]) Tryz.func58 rfl Tryz.ntmps58 rfl rfl ?_
  refine zst ?_
  unfold elemsN
  cases h0 : (k == 0)
  · refine zst ?_
    cases h1 : (k == 1)
    · refine zst ?_
      cases h2 : (k == 5)
      · refine zst ?_
        cases h3 : (k == 7)
        · refine zst ?_
          cases h4 : (k == 8)
          · refine zst ?_
            cases h5 : (k == 9)
            · refine zst ?_
              simp only [beq_eq_false_iff_ne] at *
              rw [if_neg (by omega), if_neg (by omega), if_neg (by omega)]
              exact fin1 (.inl rfl) rfl rfl ⟨rfl, rfl⟩
            · refine zst ?_
              simp only [beq_eq_false_iff_ne, beq_iff_eq] at *
              rw [if_neg (by omega), if_neg (by omega), if_pos (by omega)]
              exact fin1 (.inl rfl) rfl rfl ⟨rfl, rfl⟩
          · refine zst ?_
            simp only [beq_eq_false_iff_ne, beq_iff_eq] at *
            rw [if_neg (by omega), if_neg (by omega), if_pos (by omega)]
            exact fin1 (.inl rfl) rfl rfl ⟨rfl, rfl⟩
        · refine zst ?_
          simp only [beq_eq_false_iff_ne, beq_iff_eq] at *
          rw [if_neg (by omega), if_neg (by omega), if_pos (by omega)]
          exact fin1 (.inl rfl) rfl rfl ⟨rfl, rfl⟩
      · refine zst ?_
        simp only [beq_eq_false_iff_ne, beq_iff_eq] at *
        rw [if_neg (by omega), if_pos (by omega)]
        exact fin1 (.inl rfl) rfl rfl ⟨rfl, rfl⟩
    · refine zst ?_
      simp only [beq_eq_false_iff_ne, beq_iff_eq] at *
      rw [if_pos (by omega)]
      exact fin1 (.inl rfl) rfl rfl ⟨rfl, rfl⟩
  · refine zst ?_
    simp only [beq_iff_eq] at *
    rw [if_pos (by omega)]
    exact fin1 (.inl rfl) rfl rfl ⟨rfl, rfl⟩

theorem c_limit (D : List De) (a : Option Addr) (cp : Nat) (k : Int) (w : World) : Calls Tryz.prog 59 #[.slice a D.length cp, .int .i64 k] w (Ret fun r w' => r = .int .i64 (limitN D k) ∧ w = w') := by
  refine W.enter (args := [.slice a D.length cp, .int .i64 k]) Tryz.func59 rfl Tryz.ntmps59 rfl rfl ?_
  refine zst ?_
  unfold limitN
  cases h0 : (k == 0)
  · refine zst ?_
    cases h1 : (k == 1)
    · refine zst ?_
      cases h2 : (k == 4)
      · refine zst ?_
        cases h3 : (k == 6)
        · refine zst ?_
          cases h4 : (k == 7)
          · refine zst ?_
            cases h5 : (k == 9)
            · refine zst ?_
              simp only [beq_eq_false_iff_ne] at *
              rw [if_neg (by omega), if_neg (by omega), if_neg (by omega), if_neg (by omega), if_neg (by omega)]
              exact fin1 (.inl rfl) rfl rfl ⟨rfl, rfl⟩
            · refine zst ?_
              simp only [beq_eq_false_iff_ne, beq_iff_eq] at *
              rw [if_neg (by omega), if_neg (by omega), if_neg (by omega), if_neg (by omega), if_pos (by omega)]
              exact fin1 (.inl rfl) rfl rfl ⟨rfl, rfl⟩
          · refine zst ?_
            simp only [beq_eq_false_iff_ne, beq_iff_eq] at *
            rw [if_neg (by omega), if_neg (by omega), if_neg (by omega), if_neg (by omega), if_pos (by omega)]
            exact fin1 (.inl rfl) rfl rfl ⟨rfl, rfl⟩
        · refine zst ?_
          simp only [beq_eq_false_iff_ne, beq_iff_eq] at *
          rw [if_neg (by omega), if_neg (by omega), if_neg (by omega), if_pos (by omega)]
          exact fin1 (.inl rfl) rfl rfl ⟨rfl, rfl⟩
      · refine zst ?_
        simp only [beq_eq_false_iff_ne, beq_iff_eq] at *
        rw [if_neg (by omega), if_neg (by omega), if_pos (by omega)]
        exact fin1 (.inl rfl) rfl rfl ⟨rfl, rfl⟩
    · refine zst ?_
      simp only [beq_eq_false_iff_ne, beq_iff_eq] at *
      rw [if_neg (by omega), if_pos (by omega)]
      exact fin1 (.inl rfl) rfl rfl ⟨rfl, rfl⟩
  · refine zst ?_
    simp only [beq_iff_eq] at *
    rw [if_pos (by omega)]
    exact fin1 (.inl rfl) rfl rfl ⟨rfl, rfl⟩

theorem c_holds (t : Ty) (a1 : Option Addr) (c1 : Nat) (j : Nat) (v : Bool) (w : World) :
    Calls Tryz.prog 60 #[.agg (tyc t a1 c1).toArray, .int .i64 j, .bool v] w (Ret fun r w' => r = .bool (holdsT t j v) ∧ Ext w w') := by
  refine W.enter (args := [.agg (tyc t a1 c1).toArray, .int .i64 j, .bool v]) Tryz.func60 rfl Tryz.ntmps60 rfl rfl ?_
  refine zst ?_
  refine WU.stp rfl rfl rfl (by first | exact stp_box rfl rfl | exact stp_box1 rfl rfl) ?_
  rintro _ w1 ⟨b1, rfl, n1⟩
  refine zst ?_
  unfold holdsT
  cases h0 : (t.kind == 4)
  · refine zst ?_
    cases h1 : (t.kind == 7)
    · refine zst ?_
      cases h2 : (t.kind == 9)
      · refine zst ?_
        simp only [beq_eq_false_iff_ne] at *
        rw [if_neg (by omega), if_neg (by omega)]
        exact fin1 (.inl rfl) rfl rfl ⟨rfl, n1.ext⟩
      · refine zst ?_
        simp only [beq_eq_false_iff_ne, beq_iff_eq] at *
        rw [if_neg (by omega), if_pos (by omega)]
        exact fin1 (.inl rfl) rfl rfl ⟨rfl, n1.ext⟩
    · refine zst ?_
      simp only [beq_eq_false_iff_ne, beq_iff_eq] at *
      rw [if_pos (by omega)]
      exact fin1 (.inl rfl) rfl rfl ⟨rfl, n1.ext⟩
  · refine zst ?_
    simp only [beq_iff_eq] at *
    rw [if_pos (by omega)]
    exact fin1 (.inl rfl) rfl rfl ⟨rfl, n1.ext⟩
end Go.Proofs.YtpiegpegjbmlkaaGreatDoor
namespace Go.Kd
theorem finct {P : Program} {fn : Func} {R : Value → World → Prop} {x : Exit} {e : Env} {w : World} {t ty b t2 : Nat} {l : List Value} {u : Value} {t' : TypeId} {fz : Nat × Nat} [ha : Agt P ty l.length] (hx : x = .ret ∨ x = .normal) (hr : fn.results = #[.cell t ty, .tmp t2]) (hv : lk e t = some (.pointer (some ⟨b, 0, none⟩))) (hu : lk e t2 = some u)
    [hb : Has w b (.cells l.toArray t' fz)] (h : R (.tuple #[.agg l.toArray, u]) w) : fin P fn (Ret R) x [] e w := by
  obtain ⟨D, i, h1, h2, h3, h4⟩ := ha.at_
  have := run_loadVar_mid (P := P) w b 0 ty l D (fun j v hj => cell_of hb (by simpa using hj)) h1 (by cases D <;> simp_all) (by simp [h3, h4])
  have : RV P e w fn.results.toList [.agg l.toArray, u] := by rw [hr]; exact .cell hv this (.tmp hu .nil)
  rcases hx with rfl | rfl <;> exact ⟨rfl, [.agg l.toArray, u], this, _, rfl, h⟩
theorem Cells.same {w w' : World} {b o : Nat} {cs : List Value} (hs : w'.heap[b]? = w.heap[b]?) (h : Cells w b o cs) : Cells w' b o cs := fun j v hv => by
  have := h j v hv
  unfold World.cell? at this ⊢
  rw [hs]
  exact this
theorem SlC.same {w w' : World} {p : Nat → Prop} (hs : ∀ b, p b → w'.heap[b]? = w.heap[b]?) {sz n : Nat} {a : Option Addr} {f : Nat → List Value} (h : SlC w p sz a n f) : SlC w' p sz a n f := fun i hi => by
  obtain ⟨b, o, h1, h0, h2⟩ := h i hi
  exact ⟨b, o, h1, h0, h2.same (hs b h0)⟩
end Go.Kd
namespace Go.Proofs.YtpiegpegjbmlkaaGreatDoor
open Go Go.Kd
set_option maxRecDepth 100000

theorem TyV.same {w w' : World} {p : Nat → Prop} (hs : ∀ b, p b → w'.heap[b]? = w.heap[b]?) {cs : List Value} {t : Ty} (h : TyV w p cs t) : TyV w' p cs t := by
  induction h with
  | mk k n c vr es nm tg em a cp f _ h2 hc ih => exact .mk k n c vr es nm tg em a cp f ih (h2.same hs) hc
theorem TysV.same {w w' : World} {p : Nat → Prop} (hs : ∀ b, p b → w'.heap[b]? = w.heap[b]?) {a : Option Addr} {cp : Nat} {l : List Ty} (h : TysV w p a cp l) : TysV w' p a cp l := by
  obtain ⟨h0, f, h1, h2⟩ := h
  exact ⟨h0, f, h1.same hs, fun i e he => (h2 i e he).same hs⟩

/-- a method's cells -/
abbrev mtl (m : Mt) (a : Option Addr) (c : Nat) : List Value :=
  [.string m.name, .int .i64 m.pkg, .int .i64 m.fn.kind, .int .i64 m.fn.n, .int .i64 m.fn.count, .bool m.fn.vr, .slice a m.fn.elems.length c, .string m.fn.name, .string m.fn.tag, .bool m.fn.emb]
def MtV (w : World) (p : Nat → Prop) (cs : List Value) (m : Mt) : Prop := ∃ a c, cs = mtl m a c ∧ TysV w p a c m.fn.elems
theorem MtV.ext {w w' : World} (x : Ext w w') {p : Nat → Prop} {cs : List Value} {m : Mt} (h : MtV w p cs m) : MtV w' p cs m := by
  obtain ⟨a, c, h1, h2⟩ := h; exact ⟨a, c, h1, h2.ext x⟩
theorem MtV.mono {w : World} {p q : Nat → Prop} (hq : ∀ b, p b → q b) {cs : List Value} {m : Mt} (h : MtV w p cs m) : MtV w q cs m := by
  obtain ⟨a, c, h1, h2⟩ := h; exact ⟨a, c, h1, h2.mono hq⟩
theorem MtV.same {w w' : World} {p : Nat → Prop} (hs : ∀ b, p b → w'.heap[b]? = w.heap[b]?) {cs : List Value} {m : Mt} (h : MtV w p cs m) : MtV w' p cs m := by
  obtain ⟨a, c, h1, h2⟩ := h; exact ⟨a, c, h1, h2.same hs⟩
theorem Cells.mt_ty {w : World} {b o : Nat} {m : Mt} {a : Option Addr} {c : Nat} (h : Cells w b o (mtl m a c)) : Cells w b (o + 2) (tyc m.fn a c) :=
  h.part fun j v hv => by rw [← List.getElem?_drop]; exact hv

/-- a slice of methods -/
structure MtsV (w : World) (p : Nat → Prop) (v : Value) (l : List Mt) : Prop where
  el : ∃ a cp f, v = .slice a l.length cp ∧ SlC w p 10 a l.length f ∧ ∀ (i : Nat) m, l[i]? = some m → MtV w p (f i) m
theorem MtsV.ext {w w' : World} (x : Ext w w') {p : Nat → Prop} {v : Value} {l : List Mt} (h : MtsV w p v l) : MtsV w' p v l := by
  obtain ⟨a, cp, f, h1, h2, h3⟩ := h
  exact ⟨a, cp, f, h1, h2.ext x, fun i m hm => (h3 i m hm).ext x⟩
theorem MtsV.mono {w : World} {p q : Nat → Prop} (hq : ∀ b, p b → q b) {v : Value} {l : List Mt} (h : MtsV w p v l) : MtsV w q v l := by
  obtain ⟨a, cp, f, h1, h2, h3⟩ := h
  exact ⟨a, cp, f, h1, h2.mono hq, fun i m hm => (h3 i m hm).mono hq⟩
theorem MtsV.same {w w' : World} {p : Nat → Prop} (hs : ∀ b, p b → w'.heap[b]? = w.heap[b]?) {v : Value} {l : List Mt} (h : MtsV w p v l) : MtsV w' p v l := by
  obtain ⟨a, cp, f, h1, h2, h3⟩ := h
  exact ⟨a, cp, f, h1, h2.same hs, fun i m hm => (h3 i m hm).same hs⟩
theorem MtsV.shape {w : World} {p : Nat → Prop} {v : Value} {l : List Mt} (h : MtsV w p v l) : ∃ a cp, v = .slice a l.length cp := by
  obtain ⟨a, cp, f, h1, _⟩ := h; exact ⟨a, cp, h1⟩
theorem MtsV.next {w : World} {p : Nat → Prop} {a : Option Addr} {n cp : Nat} {l : List Mt} (h : MtsV w p (.slice a n cp) l) {i : Nat} {m : Mt} (hm : l[i]? = some m) : ∃ b o a1 c1, a = some ⟨b, o, none⟩ ∧ p b ∧ Cells w b (o + i * 10) (mtl m a1 c1) ∧ TysV w p a1 c1 m.fn.elems := by
  obtain ⟨a', cp', f, h0, h1, h2⟩ := h
  cases h0
  have hlt : i < l.length := (List.getElem?_eq_some_iff.1 hm).1
  obtain ⟨b, o, h3, h4, h5⟩ := h1 i hlt
  obtain ⟨a1, c1, h6, h7⟩ := h2 i m hm
  rw [h6] at h5
  exact ⟨b, o, a1, c1, h3, h4, h5, h7⟩

abbrev mtz : List Value := [.string eB, .int .i64 0, .int .i64 0, .int .i64 0, .int .i64 0, .bool false, .slice none 0 0, .string eB, .string eB, .bool false]
/-- what find gives -/
def FoundV (w : World) (p : Nat → Prop) (v : Value) (r : Option Mt) : Prop := match r with
  | some m => ∃ a c, v = .tuple #[.agg (mtl m a c).toArray, .bool true] ∧ TysV w p a c m.fn.elems
  | none => v = .tuple #[.agg mtz.toArray, .bool false]

theorem findM_take {l : List Mt} {s : List UInt8} {p : Int} {i : Nat} (h : ∀ (j : Nat) m, j < i → l[j]? = some m → sameNm m.name.toList m.pkg s p = false) : findM l s p = findM (l.drop i) s p := by
  induction i generalizing l with
  | zero => rfl
  | succ i ih =>
    cases l with
    | nil => rfl
    | cons a l =>
      have h0 := h 0 a (by omega) rfl
      unfold findM at *
      rw [List.find?_cons, h0]
      exact ih fun j m hj hm => h (j + 1) m (by omega) (by simpa using hm)

theorem c_find {l : List Mt} {v : Value} {q : Nat → Prop} (s : ByteArray) (pk : Int) (w : World) (hl : MtsV w q v l) (hln : l.length ≤ 1073741824) :
    Calls Tryz.prog 95 #[v, .string s, .int .i64 pk] w (Ret fun r w' => FoundV w' q r (findM l s.toList pk) ∧ Ext w w') := by
  obtain ⟨a, cp, rfl⟩ := hl.shape
  refine W.enter (args := [.slice a l.length cp, .string s, .int .i64 pk]) Tryz.func95 rfl Tryz.ntmps95 rfl rfl ?_
  refine zst ?_
  refine WU.stp rfl rfl rfl stp_alloc ?_
  rintro _ w1 ⟨b1, rfl, n1⟩
  refine zst ?_
  have e1 := n1.num
  refine W.loop (σ := Nat) (fun k => [(12, .int .i64 k), (11, .int .i64 l.length), (10, .slice a l.length cp), (7, .bool false), (6, .pointer (some ⟨b1, 0, none⟩)), (2, .int .i64 pk), (1, .string s)])
    (fun k D' w' => D' = [] ∧ k ≤ l.length ∧ Ext w w' ∧ Has w' b1 (.cells mtz.toArray 148) ∧ ∀ (j : Nat) m, j < k → l[j]? = some m → sameNm m.name.toList m.pkg s.toList pk = false)
    (fun k => l.length - k) 0 ⟨rfl, Nat.zero_le _, n1.ext, n1.has, fun j m h => by omega⟩ (by exact sub_of ⟨rfl, rfl, rfl, rfl, rfl, rfl, rfl, trivial⟩) ?_
  clear n1
  rintro k D' wr ⟨rfl, hk, xr, hb, hall⟩
  have hb1 := hb.lt
  have hsz := xr.size
  refine zst ?_
  by_cases hlt : k < l.length
  · rw [show decide ((k : Int) < (l.length : Int)) = true by simpa using hlt]
    have hm := List.getElem?_eq_getElem hlt
    generalize l[k] = m at hm
    obtain ⟨b, o, a1, c1, rfl, hqb, hc, hte⟩ := hl.next hm
    have hc' : Cells wr b (o + k * 10) (mtl m a1 c1) := hc.ext xr
    refine zst ?_
    refine WU.yld rfl rfl rfl (yld_load_cells rfl hc') ?_
    refine WU.stp rfl rfl rfl stp_alloc ?_
    rintro _ w3 ⟨b3, rfl, n3⟩
    refine WU.stp0 rfl rfl (stp_store_whole rfl rfl rfl rfl) ?_
    rintro _ w4 u4
    have e3 := n3.num
    have x4 : Ext wr w4 := (u4.ofNew n3).ext
    have hb4 : Has w4 b1 _ := u4.keep (hb.ext' n3.ext) (by omega)
    refine zst ?_
    refine WU.stp rfl rfl rfl (stp_call rfl (c_sameName m.name s m.pkg pk w4)) ?_
    rintro _ _ ⟨rfl, rfl⟩
    cases hsn : sameNm m.name.toList m.pkg s.toList pk
    · refine zst ?_
      exact ⟨k + 1, by omega, ⟨rfl, by omega, xr.trans x4, hb4, fun j m' hj hm' => by
        by_cases hjk : j = k
        · subst hjk; rw [hm] at hm'; cases hm'; exact hsn
        · exact hall j m' (by omega) hm'⟩, sub_of ⟨rfl, rfl, rfl, rfl, rfl, rfl, rfl, trivial⟩⟩
    · refine zst ?_
      refine WU.stp0 rfl rfl (stp_store_whole rfl rfl rfl rfl) ?_
      rintro _ w5 u5
      refine zst ?_
      refine finct (.inl rfl) rfl rfl rfl ⟨?_, u5.ext (xr.trans x4) (by omega)⟩
      have hf : findM l s.toList pk = some m := by
        rw [findM_take hall]
        unfold findM
        rw [List.drop_eq_getElem_cons hlt, List.find?_cons]
        have : l[k] = m := by rw [List.getElem?_eq_getElem hlt] at hm; exact Option.some.inj hm
        rw [this, hsn]
      rw [hf]
      exact ⟨a1, c1, rfl, hte.ext (u5.ext (xr.trans x4) (by omega))⟩
  · rw [show decide ((k : Int) < (l.length : Int)) = false by simpa using hlt]
    refine zst ?_
    refine WU.stp0 rfl rfl (stp_store_whole rfl rfl rfl rfl) ?_
    rintro _ w5 u5
    refine zst ?_
    refine finct (.inl rfl) rfl rfl rfl ⟨?_, u5.ext xr (by omega)⟩
    have hf : findM l s.toList pk = none := by
      rw [findM_take hall, List.drop_eq_nil_of_le (by omega)]; rfl
    rw [hf]
    exact rfl
end Go.Proofs.YtpiegpegjbmlkaaGreatDoor
namespace Go.Proofs.YtpiegpegjbmlkaaGreatDoor
open Go Go.Kd
set_option maxRecDepth 100000

def nilP : Option Value → Bool
  | some (.pointer none) => true
  | _ => false
def nilI : Option Value → Bool
  | some .nilIface => true
  | _ => false
abbrev tIF : Nat := 175
abbrev tSG : Nat := 170
abbrev tNM : Nat := 185
abbrev tTN : Nat := 156
abbrev tBU : Nat := 121
abbrev tPI : Nat := 108
abbrev tTY : Nat := 68
/-- where things lie: blocks below N never turn; nb: the row of the declared types, bb: the builder, pp, pq: the packages -/
structure Cfg where
  N : Nat
  nb : Nat
  D : List De
/-- may cell i of block b, of type t, turn? c: 0 while types are made, 1 while type sets are computed, 2 while declarations are made, 3: receivers too -/
def mc (K : Cfg) (c : Nat) (b t : Nat) (cs : Array Value) (i : Nat) : Bool :=
  if t = tTY then decide (2 ≤ c) && b == K.nb else if t = tIF then decide (1 ≤ c) && (i == 6 && nilP cs[6]?) else if t = tSG then decide (3 ≤ c) && i == 0 else if t = tNM then decide (2 ≤ c) && (if nilI cs[7]? then decide (2 ≤ i) else i == 9)
  else if t = tTN then decide (2 ≤ c) && (i == 3 && nilI cs[3]?) else if t = tBU then i == 4 else t == tPI
structure MOk (K : Cfg) (c : Nat) (b t : Nat) (cs cs' : Array Value) : Prop where
  size : cs'.size = cs.size
  cell : ∀ i, mc K c b t cs i = false → cs'[i]? = cs[i]?
theorem MOk.rfl' (K : Cfg) (c b t : Nat) (cs : Array Value) : MOk K c b t cs cs := ⟨rfl, fun _ _ => rfl⟩
theorem mc_mono {K : Cfg} {c b t : Nat} {cs cs' : Array Value} (h : MOk K c b t cs cs') {i : Nat} (hi : mc K c b t cs i = false) : mc K c b t cs' i = false := by
  have h6 := h.cell 6
  have h7 := h.cell 7
  have h3 := h.cell 3
  unfold mc at *
  by_cases t0 : t = tTY
  · simp only [t0, if_true] at *; exact hi
  simp only [t0, if_false] at *
  by_cases t1 : t = tIF
  · simp only [t1, if_true] at *
    cases h1 : decide (1 ≤ c)
    · simp
    simp only [h1, Bool.true_and] at *
    by_cases hi6 : i = 6
    · subst hi6
      simp only [beq_self_eq_true, Bool.true_and] at *
      rw [h6 hi]; exact hi
    · simp [hi6]
  · simp only [t1, if_false] at *
    by_cases t2 : t = tSG
    · simp only [t2, if_true] at *; exact hi
    · simp only [t2, if_false] at *
      by_cases t3 : t = tNM
      · simp only [t3, if_true] at *
        cases h1 : decide (2 ≤ c)
        · simp
        simp only [h1, Bool.true_and] at *
        cases hn : nilI cs[7]? with
        | true =>
          simp only [hn, if_true] at hi
          split
          · exact hi
          · simp at hi ⊢; omega
        | false =>
          simp only [hn] at h7 hi
          rw [h7 (by simp), hn]
          exact hi
      · simp only [t3, if_false] at *
        by_cases t4 : t = tTN
        · simp only [t4, if_true] at *
          cases h1 : decide (2 ≤ c)
          · simp
          simp only [h1, Bool.true_and] at *
          by_cases hi3 : i = 3
          · subst hi3
            simp only [beq_self_eq_true, Bool.true_and] at *
            rw [h3 hi]; exact hi
          · simp [hi3]
        · simp only [t4, if_false] at *
          exact hi
theorem and_lev {c c' k : Nat} {x : Bool} (hc : c ≤ c') (h : (decide (k ≤ c') && x) = false) : (decide (k ≤ c) && x) = false := by
  cases x
  · simp
  · simp at *; omega
theorem mc_lev {K : Cfg} {c c' b t : Nat} {cs : Array Value} {i : Nat} (hc : c ≤ c') (h : mc K c' b t cs i = false) : mc K c b t cs i = false := by
  unfold mc at *
  by_cases t0 : t = tTY
  · rw [if_pos t0] at *; exact and_lev hc h
  rw [if_neg t0] at *
  by_cases t1 : t = tIF
  · rw [if_pos t1] at *; exact and_lev hc h
  rw [if_neg t1] at *
  by_cases t2 : t = tSG
  · rw [if_pos t2] at *; exact and_lev hc h
  rw [if_neg t2] at *
  by_cases t3 : t = tNM
  · rw [if_pos t3] at *; exact and_lev hc h
  rw [if_neg t3] at *
  by_cases t4 : t = tTN
  · rw [if_pos t4] at *; exact and_lev hc h
  rw [if_neg t4] at *
  exact h
theorem MOk.lev {K : Cfg} {c c' d t : Nat} {a b : Array Value} (hc : c ≤ c') (h : MOk K c d t a b) : MOk K c' d t a b := ⟨h.size, fun i hi => h.cell i (mc_lev hc hi)⟩
theorem MOk.trans {K : Cfg} {l d t : Nat} {a b c : Array Value} (h : MOk K l d t a b) (k : MOk K l d t b c) : MOk K l d t a c :=
  ⟨k.size.trans h.size, fun i hi => (k.cell i (mc_mono h hi)).trans (h.cell i hi)⟩

/-- what was there stays, but for what may turn -/
structure Sta (K : Cfg) (c : Nat) (w w' : World) : Prop where
  os : w'.os = w.os
  tape : w'.tape = w.tape
  output : w'.output = w.output
  size : w.heap.size ≤ w'.heap.size
  old : ∀ b, b < K.N → b < w.heap.size → w'.heap[b]? = w.heap[b]?
  new : ∀ b cs t fz, K.N ≤ b → t ≠ tPI → w.heap[b]? = some (.cells cs t fz) → ∃ cs', w'.heap[b]? = some (.cells cs' t fz) ∧ MOk K c b t cs cs'
  oth : ∀ b o, K.N ≤ b → w.heap[b]? = some o → (∀ cs t fz, o ≠ .cells cs t fz) → w'.heap[b]? = some o
theorem Sta.of_ext {K : Cfg} {c : Nat} {w w' : World} (x : Ext w w') : Sta K c w w' :=
  ⟨x.below.os, x.below.tape, x.below.output, x.below.size, fun b _ hb => x.below.block b hb, fun b cs t fz _ _ h => ⟨cs, by rw [x.below.block b (Array.getElem?_eq_some_iff.1 h).1]; exact h, .rfl' ..⟩,
    fun b o _ h _ => by rw [x.below.block b (Array.getElem?_eq_some_iff.1 h).1]; exact h⟩
theorem Sta.rfl' (K : Cfg) (c : Nat) (w : World) : Sta K c w w := .of_ext (Ext.rfl' w)
theorem Sta.lev {K : Cfg} {c c' : Nat} {a b : World} (hc : c ≤ c') (h : Sta K c a b) : Sta K c' a b := ⟨h.os, h.tape, h.output, h.size, h.old, fun d cs t fz hd ht ha => by
    obtain ⟨cs', h1, h2⟩ := h.new d cs t fz hd ht ha
    exact ⟨cs', h1, h2.lev hc⟩, h.oth⟩
theorem Sta.trans {K : Cfg} {l : Nat} {a b c : World} (h : Sta K l a b) (k : Sta K l b c) : Sta K l a c :=
  ⟨k.os.trans h.os, k.tape.trans h.tape, k.output.trans h.output, Nat.le_trans h.size k.size, fun d hd ha => (k.old d hd (by have := h.size; omega)).trans (h.old d hd ha), fun d cs t fz hd ht ha => by
    obtain ⟨cs', h1, h2⟩ := h.new d cs t fz hd ht ha
    obtain ⟨cs2, h3, h4⟩ := k.new d cs' t fz hd ht h1
    exact ⟨cs2, h3, h2.trans h4⟩, fun d o hd ha ho => k.oth d o hd (h.oth d o hd ha ho) ho⟩
theorem Sta.ext {K : Cfg} {l : Nat} {a b c : World} (h : Sta K l a b) (k : Ext b c) : Sta K l a c := h.trans (.of_ext k)
/-- a store that is allowed -/
theorem Sta.of_upd {K : Cfg} {c : Nat} {w w' : World} {b : Nat} {cs cs' : Array Value} {t : TypeId} (hb : Has w b (.cells cs t (0, 0))) (u : Upd w b (.cells cs' t (0, 0)) w') (hN : K.N ≤ b) (hm : MOk K c b t cs cs') : Sta K c w w' :=
  ⟨u.os, u.tape, u.output, Nat.le_of_eq u.size.symm, fun d hd _ => u.oth d (by omega), fun d cs2 t2 fz hd _ h => by
    by_cases hdb : d = b
    · subst hdb
      have := hb.at_.symm.trans h
      cases this
      exact ⟨cs', u.has.at_, hm⟩
    · exact ⟨cs2, by rw [u.oth d hdb]; exact h, .rfl' ..⟩, fun d o hd h ho => by
    by_cases hdb : d = b
    · subst hdb
      have := hb.at_.symm.trans h
      cases this
      exact absurd rfl (ho _ _ _)
    · rw [u.oth d hdb]; exact h⟩
/-- a store into what is newer -/
theorem Sta.upd_new {K : Cfg} {c : Nat} {w0 w w' : World} {b : Nat} {o : Obj} (h : Sta K c w0 w) (u : Upd w b o w') (hb : w0.heap.size ≤ b) : Sta K c w0 w' :=
  ⟨u.os.trans h.os, u.tape.trans h.tape, u.output.trans h.output, by rw [u.size]; exact h.size, fun d hd ha => by rw [u.oth d (by omega)]; exact h.old d hd ha, fun d cs t fz hd ht ha => by
    have hlt := (Array.getElem?_eq_some_iff.1 ha).1
    rw [u.oth d (by omega)]; exact h.new d cs t fz hd ht ha, fun d o' hd ha ho => by
    have hlt := (Array.getElem?_eq_some_iff.1 ha).1
    rw [u.oth d (by omega)]; exact h.oth d o' hd ha ho⟩
theorem Sta.app_new {K : Cfg} {c : Nat} {w0 w w' : World} {base el sz : Nat} {v : Value} {ls : List (List Value)} (h : Sta K c w0 w) (a : App w w' v) (ho : Own w base el sz v ls) (hb : w0.heap.size ≤ base) : Sta K c w0 w' := by
  have hs := h.size
  have hk : ∀ d, d < w0.heap.size → w'.heap[d]? = w.heap[d]? := fun d hd => a.block d (by omega) fun e => by have := ho.lt d e.symm; omega
  exact ⟨a.os.trans h.os, a.tape.trans h.tape, a.output.trans h.output, Nat.le_trans hs a.size, fun d hd ha => by rw [hk d ha]; exact h.old d hd ha, fun d cs t fz hd ht ha => by
    rw [hk d (Array.getElem?_eq_some_iff.1 ha).1]; exact h.new d cs t fz hd ht ha, fun d o' hd ha ho' => by
    rw [hk d (Array.getElem?_eq_some_iff.1 ha).1]; exact h.oth d o' hd ha ho'⟩

/-- appending to the interfaces that were made -/
theorem Sta.of_app {K : Cfg} {c : Nat} {w w' : World} {base sz : Nat} {v : Value} {ls : List (List Value)} (a : App w w' v) (ho : Own w base tPI sz v ls) (hb : K.N ≤ base) : Sta K c w w' := by
  have hk : ∀ (d : Nat) (o : Obj), w.heap[d]? = some o → (∀ cs fz, o ≠ Obj.cells cs tPI fz) → w'.heap[d]? = some o := fun d o hd hne => by
    rw [a.block d (Array.getElem?_eq_some_iff.1 hd).1 fun e => ?_]
    · exact hd
    · rcases ho.row.2 with ⟨h1, _⟩ | ⟨g, cap, cur, h1, _, h3, _⟩
      · rw [h1] at e; cases e
      · rw [h1] at e
        cases e
        rw [hd] at h3
        exact hne _ _ (Option.some.inj h3)
  exact ⟨a.os, a.tape, a.output, a.size, fun d hd hs => a.block d hs fun e => by have := ho.lt d e.symm; omega, fun d cs t fz _ ht ha => ⟨cs, hk d _ ha fun cs2 fz2 e => by
    cases e; exact ht rfl, .rfl' ..⟩, fun d o _ ha hne => hk d o ha fun cs fz => hne cs tPI fz⟩
/-- types whose blocks do not turn -/
class Imm (t : Nat) : Prop where
  mc : ∀ K c b cs i, mc K c b t cs i = false
theorem imm_of {t : Nat} (h : (t != tTY && (t != tIF && (t != tSG && (t != tNM && (t != tTN && (t != tBU && t != tPI)))))) = true) : Imm t := ⟨fun K c b cs i => by
  simp only [Bool.and_eq_true, bne_iff_ne] at h
  obtain ⟨h0, h1, h2, h3, h4, h5, h6⟩ := h
  unfold Go.Proofs.YtpiegpegjbmlkaaGreatDoor.mc
  rw [if_neg h0, if_neg h1, if_neg h2, if_neg h3, if_neg h4, if_neg h5]
  simpa using h6⟩
theorem Imm.ne {t : Nat} (h : Imm t) : t ≠ tPI := fun e => by
  have := h.mc ⟨0, 0, []⟩ 0 0 #[] 0
  rw [e] at this
  exact absurd this (by decide)
theorem Sta.has {K : Cfg} {c : Nat} {w w' : World} (x : Sta K c w w') {b t : Nat} {cs : Array Value} {fz : Nat × Nat} (ht : t ≠ tPI) (h : Has w b (.cells cs t fz)) : ∃ cs', Has w' b (.cells cs' t fz) ∧ MOk K c b t cs cs' := by
  by_cases hb : b < K.N
  · exact ⟨cs, ⟨(x.old b hb h.lt).trans h.at_⟩, .rfl' ..⟩
  · obtain ⟨cs', h1, h2⟩ := x.new b cs t fz (by omega) ht h.at_
    exact ⟨cs', ⟨h1⟩, h2⟩
theorem Has.sta {K : Cfg} {c : Nat} {w w' : World} {b t : Nat} {cs : Array Value} {fz : Nat × Nat} [hi : Imm t] (x : Sta K c w w') (h : Has w b (.cells cs t fz)) : Has w' b (.cells cs t fz) := by
  obtain ⟨cs', h1, h2⟩ := x.has hi.ne h
  have : cs' = cs := by
    apply Array.ext_getElem?
    intro i
    exact h2.cell i (hi.mc K c b cs i)
  rw [← this]; exact h1
theorem Sta.olds {K : Cfg} {c : Nat} {w w' : World} (x : Sta K c w w') {p : Nat → Prop} (hp : ∀ b, p b → b < K.N ∧ b < w.heap.size) : ∀ b, p b → w'.heap[b]? = w.heap[b]? := fun b hb => x.old b (hp b hb).1 (hp b hb).2
instance : Imm 26 := imm_of rfl
instance : Imm 51 := imm_of rfl
instance : Imm 92 := imm_of rfl
instance : Imm 139 := imm_of rfl
instance : Imm 201 := imm_of rfl
instance : Imm 214 := imm_of rfl
instance : Imm 96 := imm_of rfl
instance : Imm 237 := imm_of rfl
instance : Imm 240 := imm_of rfl
instance : Imm 98 := imm_of rfl
instance : Imm 220 := imm_of rfl
instance : Imm 106 := imm_of rfl
instance : Imm 204 := imm_of rfl
instance : Imm 266 := imm_of rfl
instance : Imm 162 := imm_of rfl
instance : Imm 228 := imm_of rfl
instance : Imm 261 := imm_of rfl
instance : Imm 80 := imm_of rfl
instance : Imm 132 := imm_of rfl
instance : Imm 9 := imm_of rfl
end Go.Proofs.YtpiegpegjbmlkaaGreatDoor
namespace Go.Proofs.YtpiegpegjbmlkaaGreatDoor
open Go Go.Kd
set_option maxRecDepth 100000

abbrev pt (b : Nat) : Value := .pointer (some ⟨b, 0, none⟩)
/-- what is known of the blocks: the declared types' values, and from what each block was built -/
structure Gs where
  nm : Nat → Option Value
  g : Nat → Option Ty
  er : Value
  pk : Int → Value
  sl : Nat → Prop
structure Gs.le (s s' : Gs) : Prop where
  nm : ∀ i v, s.nm i = some v → s'.nm i = some v
  g : ∀ b t, s.g b = some t → s'.g b = some t
  er : s'.er = s.er
  pk : s'.pk = s.pk
theorem Gs.le.rfl' (s : Gs) : s.le s := ⟨fun _ _ h => h, fun _ _ h => h, rfl, rfl⟩
theorem Gs.le.trans {a b c : Gs} (h : a.le b) (k : b.le c) : a.le c := ⟨fun i v x => k.nm i v (h.nm i v x), fun i v x => k.g i v (h.g i v x), k.er.trans h.er, k.pk.trans h.pk⟩
def Gs.set (s : Gs) (b : Nat) (t : Ty) : Gs := { s with g := fun c => if c = b then some t else s.g c }

/-! ### From one world, and the blocks that are read in it, to another -/
structure Tr (K : Cfg) (w w' : World) (p q : Nat → Prop) : Prop where
  has : ∀ b cs t, p b → t ≠ tPI → Has w b (.cells cs t) → q b ∧ ∃ cs', Has w' b (.cells cs' t) ∧ MOk K 3 b t cs cs'
theorem Tr.sta {K : Cfg} {l : Nat} {w w' : World} (x : Sta K l w w') (hl : l ≤ 3) (p : Nat → Prop) : Tr K w w' p p := ⟨fun b cs t hp ht h => by
  obtain ⟨cs', h1, h2⟩ := x.has ht h
  exact ⟨hp, cs', h1, h2.lev hl⟩⟩
theorem Tr.same {K : Cfg} {w w' : World} {p : Nat → Prop} (hs : ∀ b, p b → w'.heap[b]? = w.heap[b]?) : Tr K w w' p p := ⟨fun b cs _ hp _ h => ⟨hp, cs, ⟨(hs b hp).trans h.at_⟩, .rfl' ..⟩⟩
theorem Tr.mono {K : Cfg} {w : World} {p q : Nat → Prop} (hq : ∀ b, b < w.heap.size → p b → q b) : Tr K w w p q := ⟨fun b cs _ hp _ h => ⟨hq b h.lt hp, cs, h, .rfl' ..⟩⟩
theorem Tr.imm {K : Cfg} {w w' : World} {p q : Nat → Prop} (x : Tr K w w' p q) {b t : Nat} [hi : Imm t] {cs : Array Value} (hp : p b) (h : Has w b (.cells cs t)) : q b ∧ Has w' b (.cells cs t) := by
  obtain ⟨h0, cs', h1, h2⟩ := x.has b cs t hp hi.ne h
  have : cs' = cs := by
    apply Array.ext_getElem?
    intro i
    exact h2.cell i (hi.mc K 3 b cs i)
  rw [← this]; exact ⟨h0, h1⟩
theorem Tr.immT {K : Cfg} {w w' : World} {p q : Nat → Prop} (x : Tr K w w' p q) {b : Nat} {cs : Array Value} (hp : p b) (hb : b ≠ K.nb) (h : Has w b (.cells cs tTY)) : q b ∧ Has w' b (.cells cs tTY) := by
  obtain ⟨h0, cs', h1, h2⟩ := x.has b cs tTY hp (by decide) h
  have : cs' = cs := by
    apply Array.ext_getElem?
    intro i
    exact h2.cell i (by simp [mc, hb])
  rw [← this]; exact ⟨h0, h1⟩

def VarV (w : World) (b : Nat) (pk : Value) (name : ByteArray) (v : Value) (kd : Int) (emb : Bool) : Prop :=
  Has w b (.cells #[.int .i64 0, pk, .string name, v, .int .u8 kd, .bool emb] 106)
def FuncV (w : World) (b : Nat) (pk : Value) (name : ByteArray) (v : Value) : Prop :=
  Has w b (.cells #[.int .i64 0, pk, .string name, v, .bool false, .bool false] 204)
/-- a row of n pointers of a type -/
def RowP (w : World) (t : Nat) (a : Option Addr) (n : Nat) (f : Nat → Nat) : Prop := ∀ i, i < n → ∃ b cs, a = some ⟨b, 0, none⟩ ∧ Has w b (.cells cs t) ∧ cs[i]? = some (pt (f i))
def RowQ (w : World) (p : Nat → Prop) (t : Nat) (a : Option Addr) (n : Nat) (f : Nat → Nat) : Prop := ∀ i, i < n → ∃ b cs, a = some ⟨b, 0, none⟩ ∧ p b ∧ Has w b (.cells cs t) ∧ cs[i]? = some (pt (f i))
/-- a row of n values of gotypes.Type -/
def RowT (K : Cfg) (w : World) (p : Nat → Prop) (a : Option Addr) (n : Nat) (f : Nat → Value) : Prop := ∀ i, i < n → ∃ b cs, a = some ⟨b, 0, none⟩ ∧ p b ∧ b ≠ K.nb ∧ Has w b (.cells cs tTY) ∧ cs[i]? = some (f i)
def RowS (w : World) (p : Nat → Prop) (a : Option Addr) (n : Nat) (f : Nat → ByteArray) : Prop := ∀ i, i < n → ∃ b cs, a = some ⟨b, 0, none⟩ ∧ p b ∧ Has w b (.cells cs 9) ∧ cs[i]? = some (.string (f i))
/-- a tuple of n variables -/
def TupV (w : World) (p : Nat → Prop) (q : Value) (n : Nat) (f : Nat → Nat) : Prop :=
  (q = .pointer none ∧ n = 0) ∨ ∃ b a c, q = pt b ∧ 0 < n ∧ p b ∧ Has w b (.cells #[.slice a n c] 220) ∧ RowQ w p 80 a n f
theorem VarV.tr {K : Cfg} {w w' : World} {p q : Nat → Prop} (x : Tr K w w' p q) {b : Nat} {pk : Value} {name : ByteArray} {v : Value} {kd : Int} {emb : Bool} (hp : p b) (h : VarV w b pk name v kd emb) : q b ∧ VarV w' b pk name v kd emb := x.imm hp h
theorem FuncV.tr {K : Cfg} {w w' : World} {p q : Nat → Prop} (x : Tr K w w' p q) {b : Nat} {pk : Value} {name : ByteArray} {v : Value} (hp : p b) (h : FuncV w b pk name v) : q b ∧ FuncV w' b pk name v := x.imm hp h
theorem FuncV.sta {K : Cfg} {l : Nat} {w w' : World} (x : Sta K l w w') {b : Nat} {pk : Value} {name : ByteArray} {v : Value} (h : FuncV w b pk name v) : FuncV w' b pk name v := Has.sta x h
theorem VarV.sta {K : Cfg} {l : Nat} {w w' : World} (x : Sta K l w w') {b : Nat} {pk : Value} {name : ByteArray} {v : Value} {kd : Int} {emb : Bool} (h : VarV w b pk name v kd emb) : VarV w' b pk name v kd emb := Has.sta x h
theorem RowP.sta {K : Cfg} {l : Nat} {w w' : World} (x : Sta K l w w') {t : Nat} [Imm t] {a : Option Addr} {n : Nat} {f : Nat → Nat} (h : RowP w t a n f) : RowP w' t a n f := fun i hi => by
  obtain ⟨b, cs, h1, h2, h3⟩ := h i hi
  exact ⟨b, cs, h1, Has.sta x h2, h3⟩
theorem RowQ.row {w : World} {p : Nat → Prop} {t : Nat} {a : Option Addr} {n : Nat} {f : Nat → Nat} (h : RowQ w p t a n f) : RowP w t a n f := fun i hi => by
  obtain ⟨b, cs, h1, _, h2, h3⟩ := h i hi
  exact ⟨b, cs, h1, h2, h3⟩
theorem RowQ.tr {K : Cfg} {w w' : World} {p q : Nat → Prop} (x : Tr K w w' p q) {t : Nat} [Imm t] {a : Option Addr} {n : Nat} {f : Nat → Nat} (h : RowQ w p t a n f) : RowQ w' q t a n f := fun i hi => by
  obtain ⟨b, cs, h1, h0, h2, h3⟩ := h i hi
  obtain ⟨k1, k2⟩ := x.imm h0 h2
  exact ⟨b, cs, h1, k1, k2, h3⟩
theorem RowT.tr {K : Cfg} {w w' : World} {p q : Nat → Prop} (x : Tr K w w' p q) {a : Option Addr} {n : Nat} {f : Nat → Value} (h : RowT K w p a n f) : RowT K w' q a n f := fun i hi => by
  obtain ⟨b, cs, h1, hp, h0, h2, h3⟩ := h i hi
  obtain ⟨k1, k2⟩ := x.immT hp h0 h2
  exact ⟨b, cs, h1, k1, h0, k2, h3⟩
theorem RowS.tr {K : Cfg} {w w' : World} {p q : Nat → Prop} (x : Tr K w w' p q) {a : Option Addr} {n : Nat} {f : Nat → ByteArray} (h : RowS w p a n f) : RowS w' q a n f := fun i hi => by
  obtain ⟨b, cs, h1, h0, h2, h3⟩ := h i hi
  obtain ⟨k1, k2⟩ := x.imm h0 h2
  exact ⟨b, cs, h1, k1, k2, h3⟩
theorem TupV.tr {K : Cfg} {w w' : World} {p q : Nat → Prop} (x : Tr K w w' p q) {v : Value} {n : Nat} {f : Nat → Nat} (h : TupV w p v n f) : TupV w' q v n f := by
  rcases h with h | ⟨b, a, c, h1, h2, h0, h3, h4⟩
  · exact .inl h
  · obtain ⟨k1, k2⟩ := x.imm h0 h3
    exact .inr ⟨b, a, c, h1, h2, k1, k2, h4.tr x⟩

/-- the kind of a basic type in package go/types -/
def bk (n : Int) : Int := if n = 18 then 8 else if n = 19 then 5 else n + 1
/-- what package go/types says of a kind: a number, a string .. -/
def infK (k : Int) : Int := if k = 1 then 1 else if k ≤ 6 then 2 else if k ≤ 12 then 6 else if k ≤ 14 then 8 else if k ≤ 16 then 16 else if k = 17 then 32 else 0

/-- what an interface type's block holds -/
abbrev ifc (ma : Option Addr) (mn mc : Nat) (ea : Option Addr) (en ec : Nat) (ts : Value) : Array Value := #[.pointer none, .slice ma mn mc, .slice ea en ec, .pointer none, .bool false, .bool true, ts]
/-- .. but for its type set -/
def IfB (w : World) (b : Nat) (ma : Option Addr) (mn mc : Nat) (ea : Option Addr) (en ec : Nat) : Prop := ∃ ts, Has w b (.cells (ifc ma mn mc ea en ec ts) tIF)
theorem MOk.ifb {K : Cfg} {l b : Nat} {cs' : Array Value} {ma : Option Addr} {mn mc : Nat} {ea : Option Addr} {en ec : Nat} {ts : Value} (h2 : MOk K l b tIF (ifc ma mn mc ea en ec ts) cs') : ∃ ts', cs' = ifc ma mn mc ea en ec ts' := by
  have hc : ∀ i, i < 6 → cs'[i]? = (ifc ma mn mc ea en ec ts)[i]? := fun i hi => h2.cell i (by
    unfold Go.Proofs.YtpiegpegjbmlkaaGreatDoor.mc
    simp only [show ¬ tIF = tTY from by decide, if_false, if_true]
    have : i ≠ 6 := by omega
    simp [this])
  have h7 : cs'.size = 7 := h2.size
  refine ⟨cs'[6], ?_⟩
  apply Array.ext_getElem?
  intro i
  by_cases hi : i < 6
  · rw [hc i hi]
    match i, hi with
    | 0, _ | 1, _ | 2, _ | 3, _ | 4, _ | 5, _ => rfl
  · by_cases hi6 : i = 6
    · subst hi6; simp [h7]
    · rw [Array.getElem?_eq_none (by omega), Array.getElem?_eq_none (by simp; omega)]
theorem IfB.tr {K : Cfg} {w w' : World} {p q : Nat → Prop} (x : Tr K w w' p q) {b : Nat} {ma : Option Addr} {mn mc : Nat} {ea : Option Addr} {en ec : Nat} (hp : p b) (h : IfB w b ma mn mc ea en ec) : q b ∧ IfB w' b ma mn mc ea en ec := by
  obtain ⟨ts, h⟩ := h
  obtain ⟨h0, cs', h1, h2⟩ := x.has _ _ _ hp (by decide) h
  obtain ⟨ts', rfl⟩ := h2.ifb
  exact ⟨h0, ts', h1⟩
def SigB (w : World) (b : Nat) (ps rs : Value) (vr : Bool) : Prop := ∃ rv, Has w b (.cells #[rv, .pointer none, ps, rs, .bool vr] tSG)
theorem SigB.tr {K : Cfg} {w w' : World} {p q : Nat → Prop} (x : Tr K w w' p q) {b : Nat} {ps rs : Value} {vr : Bool} (hp : p b) (h : SigB w b ps rs vr) : q b ∧ SigB w' b ps rs vr := by
  obtain ⟨rv, h⟩ := h
  obtain ⟨h0, cs', h1, h2⟩ := x.has _ _ _ hp (by decide) h
  have hc : ∀ i, i ≠ 0 → cs'[i]? = (#[rv, Value.pointer none, ps, rs, .bool vr] : Array Value)[i]? := fun i hi => h2.cell i (by
    unfold Go.Proofs.YtpiegpegjbmlkaaGreatDoor.mc
    simp only [show ¬ tSG = tTY from by decide, show ¬ tSG = tIF from by decide, if_false, if_true]
    simp [hi])
  have h7 : cs'.size = 5 := h2.size
  refine ⟨h0, cs'[0], ?_⟩
  have : cs' = #[cs'[0], .pointer none, ps, rs, .bool vr] := by
    apply Array.ext_getElem?
    intro i
    by_cases hi : i = 0
    · subst hi; simp [h7]
    · rw [hc i hi]
      match i, hi with
      | 1, _ | 2, _ | 3, _ | 4, _ => rfl
      | i + 5, _ => rw [Array.getElem?_eq_none (by simp), Array.getElem?_eq_none (by simp)]
  rw [← this]; exact h1

/-- the package of a method -/
def PkOk (s : Gs) (n : Int) (nm : ByteArray) (pk : Value) : Prop := pk = s.pk n ∨ (pk = .pointer none ∧ expo nm.toList = true)
/-- value v of gotypes.Type was built from t; the blocks that are read: p -/
inductive RT (K : Cfg) (s : Gs) (w : World) (p : Nat → Prop) : Value → Ty → Prop
  | basic (t : Ty) (b : Nat) (i : Int) (nb : ByteArray) : t.kind = 0 → 0 ≤ t.n → t.n < 20 → p b → Has w b (.cells #[.int .i64 (bk t.n), .int .i64 (infK (bk t.n)), .string nb] 139) → s.g b = some t → RT K s w p (.iface 109 (pt b)) t
  | error (t : Ty) : t.kind = 0 → t.n = 20 → RT K s w p s.er t
  | any (t : Ty) (b : Nat) : t.kind = 0 → t.n = 21 → p b → IfB w b none 0 0 none 0 0 → s.g b = some t → RT K s w p (.iface 108 (pt b)) t
  | named (t : Ty) (v : Value) : t.kind = 1 → s.nm t.n.toNat = some v → RT K s w p v t
  | ptr (t e : Ty) (v : Value) (b : Nat) : t.kind = 2 → t.elems = [e] → RT K s w p v e → p b → Has w b (.cells #[v] 201) → s.g b = some t → RT K s w p (.iface 128 (pt b)) t
  | slice (t e : Ty) (v : Value) (b : Nat) : t.kind = 3 → t.elems = [e] → RT K s w p v e → p b → Has w b (.cells #[v] 214) → s.g b = some t → RT K s w p (.iface 107 (pt b)) t
  | array (t e : Ty) (v : Value) (b : Nat) : t.kind = 4 → t.elems = [e] → RT K s w p v e → p b → Has w b (.cells #[.int .i64 t.n, v] 96) → s.g b = some t → RT K s w p (.iface 94 (pt b)) t
  | map (t k e : Ty) (u v : Value) (b : Nat) : t.kind = 5 → t.elems = [k, e] → RT K s w p u k → RT K s w p v e → p b → Has w b (.cells #[u, v] 237) → s.g b = some t → RT K s w p (.iface 189 (pt b)) t
  | chan (t e : Ty) (v : Value) (b : Nat) : t.kind = 6 → t.elems = [e] → RT K s w p v e → p b → Has w b (.cells #[.int .i64 t.n, v] 240) → s.g b = some t → RT K s w p (.iface 191 (pt b)) t
  | struct (t : Ty) (b : Nat) (fa : Option Addr) (fc : Nat) (ta : Option Addr) (tc : Nat) (vb : Nat → Nat) (vv : Nat → Value) (tg : Nat → ByteArray) : t.kind = 7 →
      (∀ (i : Nat) e, t.elems[i]? = some e → RT K s w p (vv i) e) → (∀ (i : Nat) e, t.elems[i]? = some e → p (vb i) ∧ VarV w (vb i) (s.pk t.n) e.name (vv i) 6 e.emb ∧ tg i = e.tag) →
      p b → Has w b (.cells #[.slice fa t.elems.length fc, .slice ta t.elems.length tc] 98) → RowQ w p 80 fa t.elems.length vb → RowS w p ta t.elems.length tg → s.g b = some t → RT K s w p (.iface 75 (pt b)) t
  | func (t : Ty) (b : Nat) (ps rs : Value) (vb : Nat → Nat) (vv : Nat → Value) : t.kind = 8 →
      (∀ (i : Nat) e, t.elems[i]? = some e → RT K s w p (vv i) e) → (∀ (i : Nat) e, t.elems[i]? = some e → ∃ pk kd, p (vb i) ∧ VarV w (vb i) pk e.name (vv i) kd false) →
      p b → SigB w b ps rs t.vr → TupV w p ps t.count.toNat vb → TupV w p rs (t.elems.length - t.count.toNat) (fun i => vb (t.count.toNat + i)) → s.g b = some t → RT K s w p (.iface 134 (pt b)) t
  | iface (t : Ty) (b : Nat) (ma : Option Addr) (mc : Nat) (ea : Option Addr) (ec : Nat) (fb : Nat → Nat) (me : Nat → Ty) (sv ev : Nat → Value) : t.kind = 9 →
      (∀ i, i < t.count.toNat → RT K s w p (sv i) (me i)) → (∀ i, i < t.count.toNat → ∃ pk, PkOk s t.n (me i).name pk ∧ p (fb i) ∧ FuncV w (fb i) pk (me i).name (sv i)) → ((List.range t.count.toNat).map me).Perm (t.elems.take t.count.toNat) →
      (∀ (i : Nat) e, t.elems[t.count.toNat + i]? = some e → RT K s w p (ev i) e) → p b → IfB w b ma t.count.toNat mc ea (t.elems.length - t.count.toNat) ec → RowQ w p 132 ma t.count.toNat fb → RowT K w p ea (t.elems.length - t.count.toNat) ev →
      s.g b = some t → RT K s w p (.iface 108 (pt b)) t

theorem RT.tr {K : Cfg} {s : Gs} {w w' : World} {p q : Nat → Prop} (x : Tr K w w' p q) {v : Value} {t : Ty} (h : RT K s w p v t) : RT K s w' q v t := by
  induction h with
  | basic t b i nb h0 h1 h2 hp h3 h4 => exact .basic t b i nb h0 h1 h2 (x.imm hp h3).1 (x.imm hp h3).2 h4
  | error t h0 h1 => exact .error t h0 h1
  | any t b h0 h1 hp h2 h3 => exact .any t b h0 h1 (h2.tr x hp).1 (h2.tr x hp).2 h3
  | named t v h0 h1 => exact .named t v h0 h1
  | ptr t e v b h0 h1 _ hp h3 h4 ih => exact .ptr t e v b h0 h1 ih (x.imm hp h3).1 (x.imm hp h3).2 h4
  | slice t e v b h0 h1 _ hp h3 h4 ih => exact .slice t e v b h0 h1 ih (x.imm hp h3).1 (x.imm hp h3).2 h4
  | array t e v b h0 h1 _ hp h3 h4 ih => exact .array t e v b h0 h1 ih (x.imm hp h3).1 (x.imm hp h3).2 h4
  | map t k e u v b h0 h1 _ _ hp h3 h4 ih1 ih2 => exact .map t k e u v b h0 h1 ih1 ih2 (x.imm hp h3).1 (x.imm hp h3).2 h4
  | chan t e v b h0 h1 _ hp h3 h4 ih => exact .chan t e v b h0 h1 ih (x.imm hp h3).1 (x.imm hp h3).2 h4
  | struct t b fa fc ta tc vb vv tg h0 _ h2 hp h3 h4 h5 h6 ih => exact .struct t b fa fc ta tc vb vv tg h0 ih (fun i e he => ⟨((h2 i e he).2.1.tr x (h2 i e he).1).1, ((h2 i e he).2.1.tr x (h2 i e he).1).2, (h2 i e he).2.2⟩) (x.imm hp h3).1 (x.imm hp h3).2 (h4.tr x) (h5.tr x) h6
  | func t b ps rs vb vv h0 _ h2 hp h3 h4 h5 h6 ih => exact .func t b ps rs vb vv h0 ih (fun i e he => (h2 i e he).imp fun _ h => h.imp fun _ h => h.2.tr x h.1) (h3.tr x hp).1 (h3.tr x hp).2 (h4.tr x) (h5.tr x) h6
  | iface t b ma mc ea ec fb me sv ev h0 _ h2 h3 _ hp h5 h6 h7 h8 ih1 ih2 => exact .iface t b ma mc ea ec fb me sv ev h0 ih1 (fun i hi => (h2 i hi).imp fun _ h => ⟨h.1, h.2.2.tr x h.2.1⟩) h3 ih2 (h5.tr x hp).1 (h5.tr x hp).2 (h6.tr x) (h7.tr x) h8
theorem RT.sta {K : Cfg} {l : Nat} {s : Gs} {w w' : World} {p : Nat → Prop} (x : Sta K l w w') (hl : l ≤ 3) {v : Value} {t : Ty} (h : RT K s w p v t) : RT K s w' p v t := h.tr (.sta x hl p)
theorem RT.mono {K : Cfg} {s : Gs} {w : World} {p q : Nat → Prop} (hq : ∀ b, b < w.heap.size → p b → q b) {v : Value} {t : Ty} (h : RT K s w p v t) : RT K s w q v t := h.tr (.mono hq)
theorem RT.same {K : Cfg} {s : Gs} {w w' : World} {p : Nat → Prop} (hs : ∀ b, p b → w'.heap[b]? = w.heap[b]?) {v : Value} {t : Ty} (h : RT K s w p v t) : RT K s w' p v t := h.tr (.same hs)
theorem RT.le {K : Cfg} {s s' : Gs} {w : World} {p : Nat → Prop} (l : s.le s') {v : Value} {t : Ty} (h : RT K s w p v t) : RT K s' w p v t := by
  induction h with
  | basic t b i nb h0 h1 h2 hp h3 h4 => exact .basic t b i nb h0 h1 h2 hp h3 (l.g _ _ h4)
  | error t h0 h1 => rw [← l.er]; exact .error t h0 h1
  | any t b h0 h1 hp h2 h3 => exact .any t b h0 h1 hp h2 (l.g _ _ h3)
  | named t v h0 h1 => exact .named t v h0 (l.nm _ _ h1)
  | ptr t e v b h0 h1 _ hp h3 h4 ih => exact .ptr t e v b h0 h1 ih hp h3 (l.g _ _ h4)
  | slice t e v b h0 h1 _ hp h3 h4 ih => exact .slice t e v b h0 h1 ih hp h3 (l.g _ _ h4)
  | array t e v b h0 h1 _ hp h3 h4 ih => exact .array t e v b h0 h1 ih hp h3 (l.g _ _ h4)
  | map t k e u v b h0 h1 _ _ hp h3 h4 ih1 ih2 => exact .map t k e u v b h0 h1 ih1 ih2 hp h3 (l.g _ _ h4)
  | chan t e v b h0 h1 _ hp h3 h4 ih => exact .chan t e v b h0 h1 ih hp h3 (l.g _ _ h4)
  | struct t b fa fc ta tc vb vv tg h0 _ h2 hp h3 h4 h5 h6 ih => exact .struct t b fa fc ta tc vb vv tg h0 ih (by rw [l.pk]; exact h2) hp h3 h4 h5 (l.g _ _ h6)
  | func t b ps rs vb vv h0 _ h2 hp h3 h4 h5 h6 ih => exact .func t b ps rs vb vv h0 ih h2 hp h3 h4 h5 (l.g _ _ h6)
  | iface t b ma mc ea ec fb me sv ev h0 _ h2 h3 _ hp h5 h6 h7 h8 ih1 ih2 => exact .iface t b ma mc ea ec fb me sv ev h0 ih1 (by unfold PkOk; rw [l.pk]; exact h2) h3 ih2 hp h5 h6 h7 (l.g _ _ h8)
end Go.Proofs.YtpiegpegjbmlkaaGreatDoor
namespace Go.Proofs.YtpiegpegjbmlkaaGreatDoor
open Go Go.Kd
set_option maxRecDepth 100000

theorem c_direction (n : Int) (w : World) (hn : 0 ≤ n ∧ n < 3) :
    Calls Tryz.prog 117 #[.int .i64 n] w (Ret fun r w' => r = .int .i64 n ∧ w = w') := by
  by_cases h1 : n = 1
  · subst h1
    refine W.enter (args := [.int .i64 1]) Tryz.func117 rfl Tryz.ntmps117 rfl rfl ?_
    refine zst ?_
    exact fin1 (.inl rfl) rfl rfl ⟨rfl, rfl⟩
  by_cases h2 : n = 2
  · subst h2
    refine W.enter (args := [.int .i64 2]) Tryz.func117 rfl Tryz.ntmps117 rfl rfl ?_
    refine zst ?_
    exact fin1 (.inl rfl) rfl rfl ⟨rfl, rfl⟩
  obtain rfl : n = 0 := by omega
  refine W.enter (args := [.int .i64 0]) Tryz.func117 rfl Tryz.ntmps117 rfl rfl ?_
  refine zst ?_
  exact fin1 (.inl rfl) rfl rfl ⟨rfl, rfl⟩


theorem c_NewPointer (T : Nat) (v : Value) (w : World) :
    Calls Tryz.prog 81 #[.iface T v] w (Ret fun r w' => ∃ b, r = pt b ∧ New w b (.cells #[.iface T v] 201) w') := by
  refine W.enter (args := [.iface T v]) Tryz.func81 rfl Tryz.ntmps81 rfl rfl ?_
  refine zst ?_
  refine WU.stp rfl rfl rfl (by first | exact stp_box rfl rfl | exact stp_box1 rfl rfl) ?_
  rintro _ w1 ⟨b1, rfl, n1⟩
  refine zst ?_
  exact fin1 (.inl rfl) rfl rfl ⟨b1, rfl, n1⟩

theorem c_NewSlice (T : Nat) (v : Value) (w : World) :
    Calls Tryz.prog 113 #[.iface T v] w (Ret fun r w' => ∃ b, r = pt b ∧ New w b (.cells #[.iface T v] 214) w') := by
  refine W.enter (args := [.iface T v]) Tryz.func113 rfl Tryz.ntmps113 rfl rfl ?_
  refine zst ?_
  refine WU.stp rfl rfl rfl (by first | exact stp_box rfl rfl | exact stp_box1 rfl rfl) ?_
  rintro _ w1 ⟨b1, rfl, n1⟩
  refine zst ?_
  exact fin1 (.inl rfl) rfl rfl ⟨b1, rfl, n1⟩

theorem c_NewArray (T : Nat) (v : Value) (n : Int) (w : World) :
    Calls Tryz.prog 114 #[.iface T v, .int .i64 n] w (Ret fun r w' => ∃ b, r = pt b ∧ New w b (.cells #[.int .i64 n, .iface T v] 96) w') := by
  refine W.enter (args := [.iface T v, .int .i64 n]) Tryz.func114 rfl Tryz.ntmps114 rfl rfl ?_
  refine zst ?_
  refine WU.stp rfl rfl rfl (by first | exact stp_box rfl rfl | exact stp_box1 rfl rfl) ?_
  rintro _ w1 ⟨b1, rfl, n1⟩
  refine zst ?_
  exact fin1 (.inl rfl) rfl rfl ⟨b1, rfl, n1⟩

theorem c_NewChan (n : Int) (T : Nat) (v : Value) (w : World) :
    Calls Tryz.prog 116 #[.int .i64 n, .iface T v] w (Ret fun r w' => ∃ b, r = pt b ∧ New w b (.cells #[.int .i64 n, .iface T v] 240) w') := by
  refine W.enter (args := [.int .i64 n, .iface T v]) Tryz.func116 rfl Tryz.ntmps116 rfl rfl ?_
  refine zst ?_
  refine WU.stp rfl rfl rfl (by first | exact stp_box rfl rfl | exact stp_box1 rfl rfl) ?_
  rintro _ w1 ⟨b1, rfl, n1⟩
  refine zst ?_
  exact fin1 (.inl rfl) rfl rfl ⟨b1, rfl, n1⟩

theorem c_NewMap (T : Nat) (v : Value) (T2 : Nat) (v2 : Value) (w : World) :
    Calls Tryz.prog 115 #[.iface T v, .iface T2 v2] w (Ret fun r w' => ∃ b, r = pt b ∧ New w b (.cells #[.iface T v, .iface T2 v2] 237) w') := by
  refine W.enter (args := [.iface T v, .iface T2 v2]) Tryz.func115 rfl Tryz.ntmps115 rfl rfl ?_
  refine zst ?_
  refine WU.stp rfl rfl rfl (by first | exact stp_box rfl rfl | exact stp_box1 rfl rfl) ?_
  rintro _ w1 ⟨b1, rfl, n1⟩
  refine zst ?_
  exact fin1 (.inl rfl) rfl rfl ⟨b1, rfl, n1⟩

theorem c_newVar (kd : Int) (pos : Int) (pk : Option Addr) (nm : ByteArray) (T : Nat) (v : Value) (w : World) :
    Calls Tryz.prog 106 #[.int .u8 kd, .int .i64 pos, .pointer pk, .string nm, .iface T v] w (Ret fun r w' => ∃ b, r = pt b ∧ New w b (.cells #[.int .i64 pos, .pointer pk, .string nm, .iface T v, .int .u8 kd, .bool false] 106) w') := by
  refine W.enter (args := [.int .u8 kd, .int .i64 pos, .pointer pk, .string nm, .iface T v]) Tryz.func106 rfl Tryz.ntmps106 rfl rfl ?_
  refine zst ?_
  refine WU.stp rfl rfl rfl (by first | exact stp_box rfl rfl | exact stp_box1 rfl rfl) ?_
  rintro _ w1 ⟨b1, rfl, n1⟩
  refine zst ?_
  exact fin1 (.inl rfl) rfl rfl ⟨b1, rfl, n1⟩
theorem c_NewParam (pos : Int) (pk : Option Addr) (nm : ByteArray) (T : Nat) (v : Value) (w : World) :
    Calls Tryz.prog 127 #[.int .i64 pos, .pointer pk, .string nm, .iface T v] w (Ret fun r w' => ∃ b, r = pt b ∧ New w b (.cells #[.int .i64 pos, .pointer pk, .string nm, .iface T v, .int .u8 4, .bool false] 106) w') := by
  refine W.enter (args := [.int .i64 pos, .pointer pk, .string nm, .iface T v]) Tryz.func127 rfl Tryz.ntmps127 rfl rfl ?_
  refine zst ?_
  refine WU.stp rfl rfl rfl (stp_call rfl (c_newVar 4 pos pk nm T v w)) ?_
  rintro _ w1 ⟨b1, rfl, n1⟩
  refine zst ?_
  exact fin1 (.inl rfl) rfl rfl ⟨b1, rfl, n1⟩
theorem c_NewVar (pos : Int) (pk : Option Addr) (nm : ByteArray) (T : Nat) (v : Value) (w : World) :
    Calls Tryz.prog 82 #[.int .i64 pos, .pointer pk, .string nm, .iface T v] w (Ret fun r w' => ∃ b, r = pt b ∧ New w b (.cells #[.int .i64 pos, .pointer pk, .string nm, .iface T v, .int .u8 1, .bool false] 106) w') := by
  refine W.enter (args := [.int .i64 pos, .pointer pk, .string nm, .iface T v]) Tryz.func82 rfl Tryz.ntmps82 rfl rfl ?_
  refine zst ?_
  refine WU.stp rfl rfl rfl (stp_call rfl (c_newVar 1 pos pk nm T v w)) ?_
  rintro _ w1 ⟨b1, rfl, n1⟩
  refine zst ?_
  exact fin1 (.inl rfl) rfl rfl ⟨b1, rfl, n1⟩
theorem c_NewField (pos : Int) (pk : Option Addr) (nm : ByteArray) (T : Nat) (v : Value) (em : Bool) (w : World) :
    Calls Tryz.prog 118 #[.int .i64 pos, .pointer pk, .string nm, .iface T v, .bool em] w (Ret fun r w' => ∃ b, r = pt b ∧ New w b (.cells #[.int .i64 pos, .pointer pk, .string nm, .iface T v, .int .u8 6, .bool em] 106) w') := by
  refine W.enter (args := [.int .i64 pos, .pointer pk, .string nm, .iface T v, .bool em]) Tryz.func118 rfl Tryz.ntmps118 rfl rfl ?_
  refine zst ?_
  refine WU.stp rfl rfl rfl (stp_call rfl (c_newVar 6 pos pk nm T v w)) ?_
  rintro _ w1 ⟨b1, rfl, n1⟩
  refine zst ?_
  have h1 : Has w1 b1 (.cells [Value.int .i64 pos, .pointer pk, .string nm, .iface T v, .int .u8 6, .bool false].toArray 106) := n1.has
  refine WU.stp0 rfl rfl (stp_store_cell rfl rfl rfl rfl) ?_
  rintro _ w2 u2
  refine zst ?_
  exact fin1 (.inl rfl) rfl rfl ⟨b1, rfl, u2.ofNew n1⟩
theorem c_NewFunc (pos : Int) (pk : Option Addr) (nm : ByteArray) (b : Nat) (w : World) :
    Calls Tryz.prog 84 #[.int .i64 pos, .pointer pk, .string nm, pt b] w (Ret fun r w' => ∃ c, r = pt c ∧ New w c (.cells #[.int .i64 pos, .pointer pk, .string nm, .iface 134 (pt b), .bool false, .bool false] 204) w') := by
  refine W.enter (args := [.int .i64 pos, .pointer pk, .string nm, pt b]) Tryz.func84 rfl Tryz.ntmps84 rfl rfl ?_
  refine zst ?_
  refine WU.stp rfl rfl rfl (by first | exact stp_box rfl rfl | exact stp_box1 rfl rfl) ?_
  rintro _ w1 ⟨b1, rfl, n1⟩
  refine zst ?_
  exact fin1 (.inl rfl) rfl rfl ⟨b1, rfl, n1⟩
theorem c_NewTypeName (pos : Int) (pk : Option Addr) (nm : ByteArray) (w : World) :
    Calls Tryz.prog 104 #[.int .i64 pos, .pointer pk, .string nm, .nilIface] w (Ret fun r w' => ∃ c, r = pt c ∧ New w c (.cells #[.int .i64 pos, .pointer pk, .string nm, .nilIface] 156) w') := by
  refine W.enter (args := [.int .i64 pos, .pointer pk, .string nm, .nilIface]) Tryz.func104 rfl Tryz.ntmps104 rfl rfl ?_
  refine zst ?_
  refine WU.stp rfl rfl rfl (by first | exact stp_box rfl rfl | exact stp_box1 rfl rfl) ?_
  rintro _ w1 ⟨b1, rfl, n1⟩
  refine zst ?_
  exact fin1 (.inl rfl) rfl rfl ⟨b1, rfl, n1⟩
theorem c_NewTuple (a : Option Addr) (n c : Nat) (w : World) :
    Calls Tryz.prog 108 #[.slice a n c] w (Ret fun r w' => ((n = 0 ∧ r = .pointer none ∧ w = w') ∨ ∃ b, 0 < n ∧ r = pt b ∧ New w b (.cells #[.slice a n c] 220) w')) := by
  refine W.enter (args := [.slice a n c]) Tryz.func108 rfl Tryz.ntmps108 rfl rfl ?_
  refine zst ?_
  cases hn : decide ((n : Int) > 0)
  · refine zst ?_
    exact fin1 (.inl rfl) rfl rfl (.inl ⟨by simp at hn; omega, rfl, rfl⟩)
  · refine zst ?_
    refine WU.stp rfl rfl rfl (by first | exact stp_box rfl rfl | exact stp_box1 rfl rfl) ?_
    rintro _ w1 ⟨b1, rfl, n1⟩
    refine zst ?_
    exact fin1 (.inl rfl) rfl rfl (.inr ⟨b1, by simp at hn; omega, rfl, n1⟩)
theorem c_NewPackage (s s' : ByteArray) (w : World) :
    Calls Tryz.prog 74 #[.string s, .string s'] w (Ret fun r w' => ∃ c, r = pt c ∧ New w c (.cells #[.string s, .string s'] 162) w') := by
  refine W.enter (args := [.string s, .string s']) Tryz.func74 rfl Tryz.ntmps74 rfl rfl ?_
  refine zst ?_
  refine WU.stp rfl rfl rfl (by first | exact stp_box rfl rfl | exact stp_box1 rfl rfl) ?_
  rintro _ w1 ⟨b1, rfl, n1⟩
  refine zst ?_
  exact fin1 (.inl rfl) rfl rfl ⟨b1, rfl, n1⟩

set_option maxHeartbeats 1000000 in
theorem c_Typ (k : Int) (w : World) (hk : 1 ≤ k ∧ k ≤ 18) :
    Calls Tryz.prog 107 #[.int .i64 k] w
      (Ret fun r w' => ∃ b, ∃ _ : Int, ∃ nm, r = pt b ∧ w.heap.size ≤ b ∧ Has w' b (.cells #[.int .i64 k, .int .i64 (infK k), .string nm] 139) ∧ Ext w w') := by
  refine W.enter (args := [.int .i64 k]) Tryz.func107 rfl Tryz.ntmps107 rfl rfl ?_
  refine W.seq (W.reg (WU.yld rfl rfl rfl (yld_assign rfl) (WU.nilk ?_)))
  refine W.seq (W.reg ?_)
  refine WU.yld rfl rfl rfl (yld_build rfl rfl) ?_
  refine WU.stp rfl rfl rfl (stp_box rfl rfl) ?_
  rintro _ w1 ⟨b0, rfl, n0⟩
  refine WU.yld rfl rfl rfl (yld_build rfl rfl) ?_
  refine WU.stp rfl rfl rfl (stp_box rfl rfl) ?_
  rintro _ w2 ⟨b1, rfl, n1⟩
  refine WU.yld rfl rfl rfl (yld_build rfl rfl) ?_
  refine WU.stp rfl rfl rfl (stp_box rfl rfl) ?_
  rintro _ w3 ⟨b2, rfl, n2⟩
  refine WU.yld rfl rfl rfl (yld_build rfl rfl) ?_
  refine WU.stp rfl rfl rfl (stp_box rfl rfl) ?_
  rintro _ w4 ⟨b3, rfl, n3⟩
  refine WU.yld rfl rfl rfl (yld_build rfl rfl) ?_
  refine WU.stp rfl rfl rfl (stp_box rfl rfl) ?_
  rintro _ w5 ⟨b4, rfl, n4⟩
  refine WU.yld rfl rfl rfl (yld_build rfl rfl) ?_
  refine WU.stp rfl rfl rfl (stp_box rfl rfl) ?_
  rintro _ w6 ⟨b5, rfl, n5⟩
  refine WU.yld rfl rfl rfl (yld_build rfl rfl) ?_
  refine WU.stp rfl rfl rfl (stp_box rfl rfl) ?_
  rintro _ w7 ⟨b6, rfl, n6⟩
  refine WU.yld rfl rfl rfl (yld_build rfl rfl) ?_
  refine WU.stp rfl rfl rfl (stp_box rfl rfl) ?_
  rintro _ w8 ⟨b7, rfl, n7⟩
  refine WU.yld rfl rfl rfl (yld_build rfl rfl) ?_
  refine WU.stp rfl rfl rfl (stp_box rfl rfl) ?_
  rintro _ w9 ⟨b8, rfl, n8⟩
  refine WU.yld rfl rfl rfl (yld_build rfl rfl) ?_
  refine WU.stp rfl rfl rfl (stp_box rfl rfl) ?_
  rintro _ w10 ⟨b9, rfl, n9⟩
  refine WU.yld rfl rfl rfl (yld_build rfl rfl) ?_
  refine WU.stp rfl rfl rfl (stp_box rfl rfl) ?_
  rintro _ w11 ⟨b10, rfl, n10⟩
  refine WU.yld rfl rfl rfl (yld_build rfl rfl) ?_
  refine WU.stp rfl rfl rfl (stp_box rfl rfl) ?_
  rintro _ w12 ⟨b11, rfl, n11⟩
  refine WU.yld rfl rfl rfl (yld_build rfl rfl) ?_
  refine WU.stp rfl rfl rfl (stp_box rfl rfl) ?_
  rintro _ w13 ⟨b12, rfl, n12⟩
  refine WU.yld rfl rfl rfl (yld_build rfl rfl) ?_
  refine WU.stp rfl rfl rfl (stp_box rfl rfl) ?_
  rintro _ w14 ⟨b13, rfl, n13⟩
  refine WU.yld rfl rfl rfl (yld_build rfl rfl) ?_
  refine WU.stp rfl rfl rfl (stp_box rfl rfl) ?_
  rintro _ w15 ⟨b14, rfl, n14⟩
  refine WU.yld rfl rfl rfl (yld_build rfl rfl) ?_
  refine WU.stp rfl rfl rfl (stp_box rfl rfl) ?_
  rintro _ w16 ⟨b15, rfl, n15⟩
  refine WU.yld rfl rfl rfl (yld_build rfl rfl) ?_
  refine WU.stp rfl rfl rfl (stp_box rfl rfl) ?_
  rintro _ w17 ⟨b16, rfl, n16⟩
  refine WU.yld rfl rfl rfl (yld_build rfl rfl) ?_
  refine WU.stp rfl rfl rfl (stp_box rfl rfl) ?_
  rintro _ w18 ⟨b17, rfl, n17⟩
  refine WU.yld rfl rfl rfl (yld_build rfl rfl) ?_
  refine WU.stp rfl rfl rfl (stp_box rfl rfl) ?_
  rintro _ w19 ⟨b18, rfl, n18⟩
  refine WU.yld rfl rfl rfl (yld_build rfl rfl) ?_
  refine WU.stp rfl rfl rfl (stp_box rfl rfl) ?_
  rintro _ w20 ⟨b19, rfl, n19⟩
  refine WU.yld rfl rfl rfl (yld_build rfl rfl) ?_
  refine WU.stp rfl rfl rfl (stp_box rfl rfl) ?_
  rintro _ w21 ⟨b20, rfl, n20⟩
  refine WU.yld rfl rfl rfl (yld_build rfl rfl) ?_
  refine WU.stp rfl rfl rfl (stp_box rfl rfl) ?_
  rintro _ w22 ⟨b21, rfl, n21⟩
  refine WU.yld rfl rfl rfl (yld_build rfl rfl) ?_
  refine WU.stp rfl rfl rfl (stp_box rfl rfl) ?_
  rintro _ w23 ⟨b22, rfl, n22⟩
  refine WU.yld rfl rfl rfl (yld_build rfl rfl) ?_
  refine WU.stp rfl rfl rfl (stp_box rfl rfl) ?_
  rintro _ w24 ⟨b23, rfl, n23⟩
  refine WU.yld rfl rfl rfl (yld_build rfl rfl) ?_
  refine WU.stp rfl rfl rfl (stp_box rfl rfl) ?_
  rintro _ w25 ⟨b24, rfl, n24⟩
  refine WU.yld rfl rfl rfl (yld_build rfl rfl) ?_
  refine WU.stp rfl rfl rfl (stp_box rfl rfl) ?_
  rintro _ w26 ⟨b25, rfl, n25⟩
  refine WU.stp rfl rfl rfl (stp_buildSlice rfl rfl rfl rfl rfl) ?_
  rintro _ w27 ⟨b26, rfl, n26⟩
  have y0 : Ext w w := Ext.rfl' w
  have y1 : Ext w w1 := y0.trans n0.ext; have y2 : Ext w w2 := y1.trans n1.ext; have y3 : Ext w w3 := y2.trans n2.ext; have y4 : Ext w w4 := y3.trans n3.ext; have y5 : Ext w w5 := y4.trans n4.ext; have y6 : Ext w w6 := y5.trans n5.ext; have y7 : Ext w w7 := y6.trans n6.ext; have y8 : Ext w w8 := y7.trans n7.ext; have y9 : Ext w w9 := y8.trans n8.ext; have y10 : Ext w w10 := y9.trans n9.ext; have y11 : Ext w w11 := y10.trans n10.ext; have y12 : Ext w w12 := y11.trans n11.ext; have y13 : Ext w w13 := y12.trans n12.ext; have y14 : Ext w w14 := y13.trans n13.ext; have y15 : Ext w w15 := y14.trans n14.ext; have y16 : Ext w w16 := y15.trans n15.ext; have y17 : Ext w w17 := y16.trans n16.ext; have y18 : Ext w w18 := y17.trans n17.ext; have y19 : Ext w w19 := y18.trans n18.ext; have y20 : Ext w w20 := y19.trans n19.ext; have y21 : Ext w w21 := y20.trans n20.ext; have y22 : Ext w w22 := y21.trans n21.ext; have y23 : Ext w w23 := y22.trans n22.ext; have y24 : Ext w w24 := y23.trans n23.ext; have y25 : Ext w w25 := y24.trans n24.ext; have y26 : Ext w w26 := y25.trans n25.ext
  have hy : Ext w w27 := y26.trans n26.ext
  have z25 : Ext w26 w26 := Ext.rfl' w26; have z24 : Ext w25 w26 := n25.ext.trans z25; have z23 : Ext w24 w26 := n24.ext.trans z24; have z22 : Ext w23 w26 := n23.ext.trans z23; have z21 : Ext w22 w26 := n22.ext.trans z22; have z20 : Ext w21 w26 := n21.ext.trans z21; have z19 : Ext w20 w26 := n20.ext.trans z20; have z18 : Ext w19 w26 := n19.ext.trans z19; have z17 : Ext w18 w26 := n18.ext.trans z18; have z16 : Ext w17 w26 := n17.ext.trans z17; have z15 : Ext w16 w26 := n16.ext.trans z16; have z14 : Ext w15 w26 := n15.ext.trans z15; have z13 : Ext w14 w26 := n14.ext.trans z14; have z12 : Ext w13 w26 := n13.ext.trans z13; have z11 : Ext w12 w26 := n12.ext.trans z12; have z10 : Ext w11 w26 := n11.ext.trans z11; have z9 : Ext w10 w26 := n10.ext.trans z10; have z8 : Ext w9 w26 := n9.ext.trans z9; have z7 : Ext w8 w26 := n8.ext.trans z8; have z6 : Ext w7 w26 := n7.ext.trans z7; have z5 : Ext w6 w26 := n6.ext.trans z6; have z4 : Ext w5 w26 := n5.ext.trans z5; have z3 : Ext w4 w26 := n4.ext.trans z4; have z2 : Ext w3 w26 := n3.ext.trans z3; have z1 : Ext w2 w26 := n2.ext.trans z2
  have hx : Ext w26 w27 := n26.ext
  have l1 : w.heap.size ≤ b1 := by have h1 := n1.num; have h2 := y1.size; omega
  have l2 : w.heap.size ≤ b2 := by have h1 := n2.num; have h2 := y2.size; omega
  have l3 : w.heap.size ≤ b3 := by have h1 := n3.num; have h2 := y3.size; omega
  have l4 : w.heap.size ≤ b4 := by have h1 := n4.num; have h2 := y4.size; omega
  have l5 : w.heap.size ≤ b5 := by have h1 := n5.num; have h2 := y5.size; omega
  have l6 : w.heap.size ≤ b6 := by have h1 := n6.num; have h2 := y6.size; omega
  have l7 : w.heap.size ≤ b7 := by have h1 := n7.num; have h2 := y7.size; omega
  have l8 : w.heap.size ≤ b8 := by have h1 := n8.num; have h2 := y8.size; omega
  have l9 : w.heap.size ≤ b9 := by have h1 := n9.num; have h2 := y9.size; omega
  have l10 : w.heap.size ≤ b10 := by have h1 := n10.num; have h2 := y10.size; omega
  have l11 : w.heap.size ≤ b11 := by have h1 := n11.num; have h2 := y11.size; omega
  have l12 : w.heap.size ≤ b12 := by have h1 := n12.num; have h2 := y12.size; omega
  have l13 : w.heap.size ≤ b13 := by have h1 := n13.num; have h2 := y13.size; omega
  have l14 : w.heap.size ≤ b14 := by have h1 := n14.num; have h2 := y14.size; omega
  have l15 : w.heap.size ≤ b15 := by have h1 := n15.num; have h2 := y15.size; omega
  have l16 : w.heap.size ≤ b16 := by have h1 := n16.num; have h2 := y16.size; omega
  have l17 : w.heap.size ≤ b17 := by have h1 := n17.num; have h2 := y17.size; omega
  have l18 : w.heap.size ≤ b18 := by have h1 := n18.num; have h2 := y18.size; omega
  have hrow := n26.has
  clear y0 y1 y2 y3 y4 y5 y6 y7 y8 y9 y10 y11 y12 y13 y14 y15 y16 y17 y18 y19 y20 y21 y22 y23 y24 y25 y26 n26
  have hc : k = 1 ∨ k = 2 ∨ k = 3 ∨ k = 4 ∨ k = 5 ∨ k = 6 ∨ k = 7 ∨ k = 8 ∨ k = 9 ∨ k = 10 ∨ k = 11 ∨ k = 12 ∨ k = 13 ∨ k = 14 ∨ k = 15 ∨ k = 16 ∨ k = 17 ∨ k = 18 := by omega
  rcases hc with rfl | rfl | rfl | rfl | rfl | rfl | rfl | rfl | rfl | rfl | rfl | rfl | rfl | rfl | rfl | rfl | rfl | rfl
  all_goals
    refine zst ?_
    refine fin1 (.inl rfl) rfl rfl ?_
  · exact ⟨b1, 0, _, rfl, l1, n1.has.ext' (z1.trans hx), hy⟩
  · exact ⟨b2, 0, _, rfl, l2, n2.has.ext' (z2.trans hx), hy⟩
  · exact ⟨b3, 0, _, rfl, l3, n3.has.ext' (z3.trans hx), hy⟩
  · exact ⟨b4, 0, _, rfl, l4, n4.has.ext' (z4.trans hx), hy⟩
  · exact ⟨b5, 0, _, rfl, l5, n5.has.ext' (z5.trans hx), hy⟩
  · exact ⟨b6, 0, _, rfl, l6, n6.has.ext' (z6.trans hx), hy⟩
  · exact ⟨b7, 0, _, rfl, l7, n7.has.ext' (z7.trans hx), hy⟩
  · exact ⟨b8, 0, _, rfl, l8, n8.has.ext' (z8.trans hx), hy⟩
  · exact ⟨b9, 0, _, rfl, l9, n9.has.ext' (z9.trans hx), hy⟩
  · exact ⟨b10, 0, _, rfl, l10, n10.has.ext' (z10.trans hx), hy⟩
  · exact ⟨b11, 0, _, rfl, l11, n11.has.ext' (z11.trans hx), hy⟩
  · exact ⟨b12, 0, _, rfl, l12, n12.has.ext' (z12.trans hx), hy⟩
  · exact ⟨b13, 0, _, rfl, l13, n13.has.ext' (z13.trans hx), hy⟩
  · exact ⟨b14, 0, _, rfl, l14, n14.has.ext' (z14.trans hx), hy⟩
  · exact ⟨b15, 0, _, rfl, l15, n15.has.ext' (z15.trans hx), hy⟩
  · exact ⟨b16, 0, _, rfl, l16, n16.has.ext' (z16.trans hx), hy⟩
  · exact ⟨b17, 0, _, rfl, l17, n17.has.ext' (z17.trans hx), hy⟩
  · exact ⟨b18, 0, _, rfl, l18, n18.has.ext' (z18.trans hx), hy⟩
end Go.Proofs.YtpiegpegjbmlkaaGreatDoor
namespace Go.Kd
variable {P : Program} {e : Env} {w : World} {d : Option Tmp} {ty t t2 : TypeId} {pos : String} {aft : Array Edge} {g : Option (Nat × Bool)} {x y z : Operand}
theorem yld_conv_int {k k2 : IntKind} {n : Int} {D : TypeDesc} [h1 : Und P t D] [h2 : Und P t2 (.int k)] (hx : ev e x = some (.int k2 n)) : Yld P e ⟨d, .convert t t2 x, ty, pos, aft, g⟩ (.int k (k.wrap n)) w := ⟨fun ρ hρ w' _ => by
  have e1 := h1.at_
  have e2 := h2.at_
  simp only [execOp, hρ x _ hx, Go.convert, Sem.run_bind, run_underlying e1, run_underlying e2, Result.andThen_ok]
  cases D <;> rfl⟩
theorem yld_conv_u8i32 {c : UInt8} {D : TypeDesc} [h1 : Und P t D] [h2 : Und P t2 (.int .i32)] (hx : ev e x = some (.int .u8 (c.toNat : Int))) : Yld P e ⟨d, .convert t t2 x, ty, pos, aft, g⟩ (.int .i32 (c.toNat : Int)) w := by
  have := yld_conv_int (P := P) (w := w) (d := d) (t := t) (t2 := t2) (ty := ty) (pos := pos) (aft := aft) (g := g) (D := D) hx
  have hc := c.toNat_lt
  rwa [IntWalk.i32_in _ (by omega)] at this
theorem yld_conv_i32u32 {c : UInt8} {D : TypeDesc} [h1 : Und P t D] [h2 : Und P t2 (.int .u32)] (hx : ev e x = some (.int .i32 (c.toNat : Int))) : Yld P e ⟨d, .convert t t2 x, ty, pos, aft, g⟩ (.int .u32 (c.toNat : Int)) w := by
  have := yld_conv_int (P := P) (w := w) (d := d) (t := t) (t2 := t2) (ty := ty) (pos := pos) (aft := aft) (g := g) (D := D) hx
  have hc := c.toNat_lt
  rwa [IntWalk.u32_in _ (by omega)] at this
theorem yld_conv_i32u8 {c : UInt8} {D : TypeDesc} [h1 : Und P t D] [h2 : Und P t2 (.int .u8)] (hx : ev e x = some (.int .i32 (c.toNat : Int))) : Yld P e ⟨d, .convert t t2 x, ty, pos, aft, g⟩ (.int .u8 (c.toNat : Int)) w := by
  have := yld_conv_int (P := P) (w := w) (d := d) (t := t) (t2 := t2) (ty := ty) (pos := pos) (aft := aft) (g := g) (D := D) hx
  have hc := c.toNat_lt
  rwa [IntWalk.u8_in _ (by omega)] at this
/-- an index into a fixed row -/
theorem yld_indexAddr_arr {el m : Nat} {b : Nat} {k : IntKind} {i : Nat} [h : Und P t (.array m el)] [hi : Inf P el 1] (hx : ev e x = some (.pointer (some ⟨b, 0, none⟩))) (hy : ev e y = some (.int k (i : Int)))
    (h1 : i < m) : Yld P e ⟨d, .indexAddr t x y, ty, pos, aft, g⟩ (.pointer (some ⟨b, i, none⟩)) w := ⟨fun ρ hρ w' _ => by
  obtain ⟨j, h2, h3⟩ := hi.at_
  have hadd : (⟨b, 0, none⟩ : Addr).add i = ⟨b, i, none⟩ := by rw [Addr.add_mid, Nat.zero_add]
  simp [execOp, hρ x _ hx, hρ y _ hy, Instr.indexAt, asIntOf, run_underlying h.at_, h1, sizeOf, typeInfo, h2, h3, hadd, Instr.sureAddr]⟩
theorem yld_add_str {a b : ByteArray} (hs : a.size + b.size ≤ 9223372036854775807) (hx : ev e x = some (.string a)) (hy : ev e y = some (.string b)) : Yld P e ⟨d, .binOp .add t x y t2, ty, pos, aft, g⟩ (.string (a ++ b)) w := ⟨fun ρ hρ w' _ =>
  run_binOp_plain (hρ x _ hx) (hρ y _ hy) eqGuard_str (by
    have : (a.size : Int) + b.size ≤ 9223372036854775807 := by omega
    simp [binOp, Op.stringOp, this])⟩
theorem app_toList (a b : ByteArray) : (a ++ b).toList = a.toList ++ b.toList := by simp [Lib.toList_data]
theorem fin2 {P : Program} {fn : Func} {R : Value → World → Prop} {x : Exit} {e : Env} {w : World} {t t' : Nat} {v v' : Value} (hx : x = .ret ∨ x = .normal) (hr : fn.results = #[.tmp t, .tmp t']) (hv : lk e t = some v) (hv' : lk e t' = some v') (h : R (.tuple #[v, v']) w) :
    fin P fn (Ret R) x [] e w := by
  have : RV P e w fn.results.toList [v, v'] := by rw [hr]; exact .tmp hv (.tmp hv' .nil)
  rcases hx with rfl | rfl <;> exact ⟨rfl, [v, v'], this, _, rfl, h⟩
instance Ext.drewN (w : World) (q : Nat) : Ext w (w.drewN q) := ⟨⟨rfl, rfl, rfl, Nat.le_refl _, fun _ _ => rfl⟩⟩
theorem drewN_drewN (w : World) (a b : Nat) : (w.drewN a).drewN b = w.drewN (a + b) := by unfold World.drewN; simp [Nat.add_assoc]
/-- a drawn region, the world told to the sign -/
theorem W.regX {n : Nat} {Q : Post} {D : List Deferred} [hm : Mixed P] {id : Nat} {l : List Oper} (L : List (Nat × Kn)) (hs : Region.noSelect l.toArray = true) (hL : ordOk .any l.toArray L (Array.replicate l.length false) = true)
    (hlen : L.length = l.length) (h : WD P n l Q L D e (w.drewN 1)) : W P n (.region id l.toArray true) Q D e w := ⟨fun a ha => by
  refine wp_region_any hm.mixed (wpAny_of_wpE _ _ _ _ ?_)
  have := wpE_of_wpL (md := .any) (Q := post n Q) (fun c a w hq => hq) hs L (Array.replicate l.length false) a _ (fun k ok _ h => by simp [Array.getD] at h) hL (h.out a ha)
  rw [hlen, List.size_toArray] at *
  exact this⟩
/-- a function that the model gives -/
theorem stp_extern {k : FuncId} {args : List Operand} {tys : Array TypeId} {vs : List Value} {R : Value → World → Prop} {fn : Go.Func} {ex : Array Value → Sem Value} (hf : P.funcs[k]? = some fn) (hname : (fn.name == "runtime.NumGoroutine") = false)
    (hb : fn.body.isNone = true) (hn : Extern.findNext fn = none) (he : Extern.find fn = some ex) (ha : evs e args = some vs) {v : Value} {w' : World} (hr : (ex vs.toArray).run P w = .ok v w') (h : R v w') :
    Stp P e ⟨d, .call ⟨.value (.func k), args.toArray, tys⟩, ty, pos, aft, g⟩ w R := ⟨fun ρ hρ => by
  have hv : args.toArray.map ρ = vs.toArray := by rw [← evs_spec hρ args vs ha]; simp
  have h1 : ρ (.func k) = .func (.func k) #[] #[] := hρ _ _ rfl
  have h2 := run_callFunc_extern hf hname hb hn he vs.toArray w
  simp only [execOp, resolve, hv, h1, Deferred.ofValue, invoke, Sem.run_bind, Sem.run_pure, Result.andThen_ok, Array.append_empty, Array.empty_append]
  rw [h2, hr]
  exact h⟩
end Go.Kd
namespace Go.Proofs.YtpiegpegjbmlkaaGreatDoor
open Go Go.Kd
set_option maxRecDepth 100000

abbrev gP : Nat := 6
/-- the table of properties, as far as it is read -/
structure Prp (w : World) : Prop where
  ex : ∃ cs t fz, w.heap[gP]? = some (.cells cs t fz) ∧ ∀ n, n < 128 → ∃ v : Nat, cs[n]? = some (.int .u8 (v : Int)) ∧ v < 256 ∧ (v &&& 96 = 32 ↔ 65 ≤ n ∧ n ≤ 90)
theorem Prp.same {w w' : World} (h : Prp w) (e : w'.heap[gP]? = w.heap[gP]?) : Prp w' := by
  obtain ⟨cs, t, fz, h1, h2⟩ := h.ex
  exact ⟨cs, t, fz, e.trans h1, h2⟩
theorem Prp.lt {w : World} (h : Prp w) : gP < w.heap.size := by
  obtain ⟨cs, t, fz, h1, h2⟩ := h.ex
  exact (Array.getElem?_eq_some_iff.1 h1).1
theorem Prp.ext {w w' : World} (x : Ext w w') (h : Prp w) : Prp w' := h.same (x.below.block _ h.lt)
theorem Prp.sta {K : Cfg} {l : Nat} {w w' : World} (x : Sta K l w w') (hK : gP < K.N) (h : Prp w) : Prp w' := h.same (x.old _ hK h.lt)
theorem and96 : ∀ v : Fin 256, (IntKind.u8.wrap ((BitVec.ofInt 8 (v.val : Int) &&& BitVec.ofInt 8 96).toNat : Int) == 32) = decide (v.val &&& 96 = 32) := by decide +kernel

theorem c_DecodeRune (s : ByteArray) (c : UInt8) (l : List UInt8) (w : World) (hs : s.toList = c :: l) (hc : c.toNat < 128) :
    Calls Tryz.prog 184 #[.string s] w (Ret fun r w' => r = .tuple #[.int .i32 c.toNat, .int .i64 1] ∧ w = w') := by
  refine W.enter (args := [.string s]) Tryz.func184 rfl Tryz.ntmps184 rfl rfl ?_
  refine zst ?_
  rw [hs, E0_list, show (!(c :: l == ([] : List UInt8))) = true from rfl]
  refine zst ?_
  refine WU.yld rfl rfl rfl (yld_index_str (i := 0) rfl rfl (by rw [hs]; rfl)) ?_
  refine zst ?_
  rw [show decide ((c.toNat : Int) < 128) = true from by simp; omega]
  refine zst ?_
  refine WU.yld rfl rfl rfl (yld_index_str (i := 0) rfl rfl (by rw [hs]; rfl)) ?_
  refine WU.yld rfl rfl rfl (yld_conv_u8i32 rfl) ?_
  refine zst ?_
  exact fin2 (.inl rfl) rfl rfl rfl ⟨rfl, rfl⟩
theorem c_IsUpper (c : UInt8) (w : World) (hp : Prp w) (hc : c.toNat < 128) :
    Calls Tryz.prog 210 #[.int .i32 c.toNat] w (Ret fun r w' => r = .bool (decide (65 ≤ c.toNat) && decide (c.toNat ≤ 90)) ∧ w = w') := by
  obtain ⟨cs, tt, fz, h1, h2⟩ := hp.ex
  obtain ⟨v, h3, h4, h5⟩ := h2 _ hc
  refine W.enter (args := [.int .i32 c.toNat]) Tryz.func210 rfl Tryz.ntmps210 rfl rfl ?_
  refine zst ?_
  refine WU.yld rfl rfl rfl (yld_conv_i32u32 rfl) ?_
  refine zst ?_
  rw [show decide ((c.toNat : Int) ≤ 255) = true from by simp; omega]
  refine zst ?_
  refine WU.yld rfl rfl rfl (yld_conv_i32u8 rfl) ?_
  refine WU.yld rfl rfl rfl (yld_indexAddr_arr (i := c.toNat) rfl rfl (by omega)) ?_
  refine WU.yld rfl rfl rfl (yld_load_c (v := .int .u8 (v : Int)) rfl (by unfold World.cell?; rw [h1]; exact h3)) ?_
  refine WU.yld rfl rfl rfl (yld_and rfl rfl) ?_
  refine zst ?_
  refine fin1 (.inl rfl) rfl rfl ⟨congrArg Value.bool ?_, rfl⟩
  refine (and96 ⟨v, h4⟩).trans ?_
  simp only [h5, Bool.decide_and]
theorem c_expo (s : ByteArray) (c : UInt8) (l : List UInt8) (w : World) (hp : Prp w) (hs : s.toList = c :: l) (hc : c.toNat < 128) :
    Calls Tryz.prog 188 #[.string s] w (Ret fun r w' => r = .bool (expo s.toList) ∧ w = w') := by
  refine W.enter (args := [.string s]) Tryz.func188 rfl Tryz.ntmps188 rfl rfl ?_
  refine zst ?_
  refine WU.stp rfl rfl rfl (stp_call rfl (c_DecodeRune s c l w hs hc)) ?_
  rintro _ _ ⟨rfl, rfl⟩
  refine zst ?_
  refine WU.stp rfl rfl rfl (stp_call rfl (c_IsUpper c w hp hc)) ?_
  rintro _ _ ⟨rfl, rfl⟩
  refine zst ?_
  exact fin1 (.inl rfl) rfl rfl ⟨by rw [hs]; rfl, rfl⟩

/-! ### Objects -/
/-- what every object holds -/
def ObjV (w : World) (b : Nat) (pk : Value) (nm : ByteArray) (v : Value) : Prop := ∃ tt r, Has w b (.cells (Value.int .i64 0 :: pk :: .string nm :: v :: r).toArray tt)
theorem FuncV.obj {w : World} {b : Nat} {pk : Value} {nm : ByteArray} {v : Value} (h : FuncV w b pk nm v) : ObjV w b pk nm v := ⟨_, _, h⟩
theorem VarV.obj {w : World} {b : Nat} {pk : Value} {nm : ByteArray} {v : Value} {kd : Int} {em : Bool} (h : VarV w b pk nm v kd em) : ObjV w b pk nm v := ⟨_, _, h⟩
/-- the package of an object: it is there where the name is not exported -/
structure PkV (w : World) (nm : ByteArray) (pk : Value) (path : ByteArray) : Prop where
  ptr : ∃ a, pk = .pointer a
  at_ : expo nm.toList = false → ∃ c n, pk = pt c ∧ Has w c (.cells #[.string path, .string n] 162) ∧ path.toList ≠ []
theorem PkV.ext {w w' : World} (x : Ext w w') {nm : ByteArray} {pk : Value} {path : ByteArray} (h : PkV w nm pk path) : PkV w' nm pk path := ⟨h.ptr, fun he => by
  obtain ⟨c, n, h1, h2, h3⟩ := h.at_ he
  exact ⟨c, n, h1, h2.ext' x, h3⟩⟩
theorem PkV.sta {K : Cfg} {l : Nat} {w w' : World} (x : Sta K l w w') {nm : ByteArray} {pk : Value} {path : ByteArray} (h : PkV w nm pk path) : PkV w' nm pk path := ⟨h.ptr, fun he => by
  obtain ⟨c, n, h1, h2, h3⟩ := h.at_ he
  exact ⟨c, n, h1, Has.sta x h2, h3⟩⟩
def Asc (s : ByteArray) : Prop := ∃ c l, s.toList = c :: l ∧ c.toNat < 128
theorem letter_lt {c : UInt8} (h : letter c = true) : c.toNat < 128 := by
  have : ∀ n : Fin 256, letter (UInt8.ofNat n.val) = true → n.val < 128 := by decide +kernel
  have h2 := this ⟨c.toNat, c.toNat_lt⟩ (by simpa using h)
  exact h2
theorem Ident.asc {s : ByteArray} (h : Ident s.toList) : Asc s := by
  cases hs : s.toList with
  | nil => exact absurd hs h.ne
  | cons c l =>
    refine ⟨c, l, hs, ?_⟩
    rcases h.at_ with h1 | h1
    · rw [hs] at h1
      cases h1
      decide
    · rw [hs] at h1
      rcases h1 0 c rfl with h2 | ⟨h2, _⟩
      · exact letter_lt h2
      · exact absurd rfl h2
def idS (nm path : List UInt8) : List UInt8 := if expo nm then nm else path ++ 46 :: nm

set_option maxHeartbeats 1000000 in
theorem c_Id (b : Nat) (pk : Value) (nm path : ByteArray) (v : Value) (w : World) (hp : Prp w) (ho : ObjV w b pk nm v) (hk : PkV w nm pk path) (ha : Asc nm) (hz : path.size + nm.size ≤ 4611686018427387904) :
    Calls Tryz.prog 139 #[pt b] w (Ret fun r w' => (∃ s : ByteArray, r = .string s ∧ s.toList = idS nm.toList path.toList) ∧ Ext w w') := by
  obtain ⟨tt, r, ho⟩ := ho
  obtain ⟨a, rfl⟩ := hk.ptr
  obtain ⟨c, l, hs, hc⟩ := ha
  have key : ∀ w2, Ext w w2 → Calls Tryz.prog 168 #[.pointer a, .string nm] w2 (Ret fun r w' => (∃ s : ByteArray, r = .string s ∧ s.toList = idS nm.toList path.toList) ∧ w2 = w') := fun w2 hx => by
    refine W.enter (args := [.pointer a, .string nm]) Tryz.func168 rfl Tryz.ntmps168 rfl rfl ?_
    refine zst ?_
    refine WU.stp rfl rfl rfl (stp_call rfl (c_expo nm c l w2 (hp.ext hx) hs hc)) ?_
    rintro _ _ ⟨rfl, rfl⟩
    cases he : expo nm.toList
    · obtain ⟨cp, n, h1, h2, h3⟩ := (hk.ext hx).at_ he
      cases h1
      refine zst ?_
      rw [E0_list, show (!(path.toList == ([] : List UInt8))) = true from by cases hpt : path.toList with | nil => exact absurd hpt h3 | cons a l => rfl]
      refine zst ?_
      refine WU.yld rfl rfl rfl (yld_add_str (by show path.size + 1 ≤ _; omega) rfl rfl) ?_
      refine zst ?_
      refine WU.yld rfl rfl rfl (yld_add_str (by rw [ByteArray.size_append]; show path.size + 1 + nm.size ≤ _; omega) rfl rfl) ?_
      refine zst ?_
      refine fin1 (.inl rfl) rfl rfl ⟨⟨_, rfl, ?_⟩, rfl⟩
      rw [app_toList, app_toList]
      unfold idS
      rw [he]
      simp only [Bool.false_eq_true, if_false, List.append_assoc]
      rw [show (⟨#[46]⟩ : ByteArray).toList = [46] from by rw [Lib.toList_data]]
      rfl
    · refine zst ?_
      refine fin1 (.inl rfl) rfl rfl ⟨⟨_, rfl, ?_⟩, rfl⟩
      unfold idS
      rw [he, if_pos rfl]
  refine W.enter (args := [pt b]) Tryz.func139 rfl Tryz.ntmps139 rfl rfl ?_
  refine zst ?_
  refine W.regD [(0, .q), (1, .q), (2, .q), (3, .q), (4, .q), (5, .q), (6, .q), (7, .q), (8, .l), (9, .q)] (by kernel_rfl) (by kernel_rfl) rfl ?_
  intro w2 x2 _
  refine zsd ?_
  refine WD.stp rfl rfl rfl rfl (stp_call rfl (key w2 x2)) ?_
  rintro _ _ ⟨⟨s, rfl, hs2⟩, rfl⟩
  refine ⟨by first | assumption | exact Ext.rfl' _ | infer_instance, ?_⟩
  refine zsd ?_
  refine zst ?_
  exact fin1 (.inl rfl) rfl rfl ⟨⟨s, rfl, hs2⟩, x2⟩

theorem c_CompareString (a b : ByteArray) (w : World) :
    Calls Tryz.prog 234 #[.string a, .string b] w (Ret fun r w' => r = .int .i64 (Lib.compareBytes a.toList b.toList) ∧ w = w') := by
  refine W.enter (args := [.string a, .string b]) Tryz.func234 rfl Tryz.ntmps234 rfl rfl ?_
  refine zst ?_
  refine WU.stp rfl rfl rfl (stp_extern (R := fun v w' => v = .int .i64 (Lib.compareBytes a.toList b.toList) ∧ w' = w) Tryz.func238 (by kernel_rfl) (by kernel_rfl) (by kernel_rfl) (ex := Extern.BytealgCompare.compare) (by kernel_rfl) rfl (Lib.run_compareString a b w) ⟨by rw [Lib.toList_data, Lib.toList_data], rfl⟩) ?_
  rintro _ _ ⟨rfl, rfl⟩
  refine zst ?_
  exact fin1 (.inl rfl) rfl rfl ⟨rfl, rfl⟩
theorem c_Compare (a b : ByteArray) (w : World) :
    Calls Tryz.prog 226 #[.string a, .string b] w (Ret fun r w' => r = .int .i64 (Lib.compareBytes a.toList b.toList) ∧ w = w') := by
  refine W.enter (args := [.string a, .string b]) Tryz.func226 rfl Tryz.ntmps226 rfl rfl ?_
  refine zst ?_
  refine WU.stp rfl rfl rfl (stp_call rfl (c_CompareString a b w)) ?_
  rintro _ _ ⟨rfl, rfl⟩
  refine zst ?_
  exact fin1 (.inl rfl) rfl rfl ⟨rfl, rfl⟩
/-- the order of objects -/
def cmpN (s p s' p' : List UInt8) : Int :=
  if expo s != expo s' then (if expo s then -1 else 1) else if !(s == s') then Lib.compareBytes s s' else if !expo s then Lib.compareBytes p p' else 0
theorem compareBytes_self : ∀ s, Lib.compareBytes s s = 0
  | [] => rfl
  | a :: s => by
    have h : ¬ a < a := UInt8.lt_irrefl a
    unfold Lib.compareBytes
    rw [if_neg h, if_neg h]
    exact compareBytes_self s
theorem cmpN_self (s p : List UInt8) : cmpN s p s p = 0 := by
  unfold cmpN
  simp [compareBytes_self]
set_option maxHeartbeats 1000000 in
theorem c_cmp (b b' : Nat) (pk pk' : Value) (nm nm' path path' : ByteArray) (v v' : Value) (w : World) (hp : Prp w) (ho : ObjV w b pk nm v) (ho' : ObjV w b' pk' nm' v') (hk : PkV w nm pk path) (hk' : PkV w nm' pk' path') (ha : Asc nm) (ha' : Asc nm')
    (he : b = b' → path = path') :
    Calls Tryz.prog 198 #[pt b, pt b'] w (Ret fun r w' => r = .int .i64 (cmpN nm.toList path.toList nm'.toList path'.toList) ∧ ∃ q, w' = w.drewN q) := by
  obtain ⟨tt, r, ho⟩ := ho
  obtain ⟨tt', r', ho'⟩ := ho'
  obtain ⟨c, l, hs, hc⟩ := ha
  obtain ⟨c', l', hs', hc'⟩ := ha'
  refine W.enter (args := [pt b, pt b']) Tryz.func198 rfl Tryz.ntmps198 rfl rfl ?_
  refine zst ?_
  refine WU.yld rfl rfl rfl (yld_eql_ptr rfl rfl) ?_
  refine zst ?_
  by_cases hb : b = b'
  · subst hb
    rw [show decide ((⟨b, 0, none⟩ : Addr) = ⟨b, 0, none⟩) = true from by simp]
    refine zst ?_
    refine fin1 (.inl rfl) rfl rfl ⟨?_, 0, rfl⟩
    have := ho.at_.symm.trans ho'.at_
    simp only [Option.some.injEq, Obj.cells.injEq] at this
    have h1 := congrArg (fun a => a.toList[2]?) this.1
    simp at h1
    subst h1
    rw [← he rfl, cmpN_self]
  · rw [show decide ((⟨b, 0, none⟩ : Addr) = ⟨b', 0, none⟩) = false from decide_eq_false (fun h => hb (congrArg Addr.block h))]
    refine zst ?_
    refine WU.stp rfl rfl rfl (stp_call rfl (c_expo nm c l w hp hs hc)) ?_
    rintro _ _ ⟨rfl, rfl⟩
    refine zst ?_
    refine WU.stp rfl rfl rfl (stp_call rfl (c_expo nm' c' l' w hp hs' hc')) ?_
    rintro _ _ ⟨rfl, rfl⟩
    refine zst ?_
    unfold cmpN
    cases h1 : expo nm.toList <;> cases h2 : expo nm'.toList
    · refine zst ?_
      refine W.regX [(0, .q), (1, .q), (2, .q), (3, .q), (4, .q), (5, .q), (6, .q), (7, .q), (8, .q)] (by kernel_rfl) (by kernel_rfl) rfl ?_
      refine zsd ?_
      refine zst ?_
      cases h3 : (nm.toList == nm'.toList)
      · refine zst ?_
        refine W.regX [(0, .q), (1, .q), (2, .q), (3, .q), (4, .q), (5, .q), (6, .q), (7, .q), (8, .l), (9, .q)] (by kernel_rfl) (by kernel_rfl) rfl ?_
        refine zsd ?_
        refine WD.stp rfl rfl rfl rfl (stp_call rfl (c_Compare nm nm' ((w.drewN 1).drewN 1))) ?_
        rintro _ _ ⟨rfl, rfl⟩
        refine ⟨by first | assumption | exact Ext.rfl' _ | infer_instance, ?_⟩
        refine zsd ?_
        refine zst ?_
        exact fin1 (.inl rfl) rfl rfl ⟨rfl, 2, drewN_drewN w 1 1⟩
      · obtain ⟨cp, n, rfl, k2, k3⟩ := hk.at_ h1
        obtain ⟨cp', n', rfl, k2', k3'⟩ := hk'.at_ h2
        refine zst ?_
        refine W.regX [(0, .q), (1, .q), (2, .q), (3, .q), (4, .q), (5, .q), (6, .q), (7, .q), (8, .q), (9, .q), (10, .q), (11, .q), (12, .q), (13, .q), (14, .l), (15, .q)] (by kernel_rfl) (by kernel_rfl) rfl ?_
        refine zsd ?_
        refine WD.stp rfl rfl rfl rfl (stp_call rfl (c_Compare path path' ((w.drewN 1).drewN 1))) ?_
        rintro _ _ ⟨rfl, rfl⟩
        refine ⟨by first | assumption | exact Ext.rfl' _ | infer_instance, ?_⟩
        refine zsd ?_
        refine zst ?_
        exact fin1 (.inl rfl) rfl rfl ⟨rfl, 2, drewN_drewN w 1 1⟩
    · refine zst ?_
      exact fin1 (.inl rfl) rfl rfl ⟨rfl, 0, rfl⟩
    · refine zst ?_
      exact fin1 (.inl rfl) rfl rfl ⟨rfl, 0, rfl⟩
    · refine zst ?_
      refine W.regX [(0, .q), (1, .q), (2, .q), (3, .q), (4, .q), (5, .q), (6, .q), (7, .q), (8, .q)] (by kernel_rfl) (by kernel_rfl) rfl ?_
      refine zsd ?_
      refine zst ?_
      cases h3 : (nm.toList == nm'.toList)
      · refine zst ?_
        refine W.regX [(0, .q), (1, .q), (2, .q), (3, .q), (4, .q), (5, .q), (6, .q), (7, .q), (8, .l), (9, .q)] (by kernel_rfl) (by kernel_rfl) rfl ?_
        refine zsd ?_
        refine WD.stp rfl rfl rfl rfl (stp_call rfl (c_Compare nm nm' ((w.drewN 1).drewN 1))) ?_
        rintro _ _ ⟨rfl, rfl⟩
        refine ⟨by first | assumption | exact Ext.rfl' _ | infer_instance, ?_⟩
        refine zsd ?_
        refine zst ?_
        exact fin1 (.inl rfl) rfl rfl ⟨rfl, 2, drewN_drewN w 1 1⟩
      · refine zst ?_
        exact fin1 (.inl rfl) rfl rfl ⟨rfl, 1, rfl⟩
theorem c_compareFunc (b b' : Nat) (pk pk' : Value) (nm nm' path path' : ByteArray) (v v' : Value) (w : World) (hp : Prp w) (ho : ObjV w b pk nm v) (ho' : ObjV w b' pk' nm' v') (hk : PkV w nm pk path) (hk' : PkV w nm' pk' path') (ha : Asc nm) (ha' : Asc nm')
    (he : b = b' → path = path') :
    Calls Tryz.prog 174 #[pt b, pt b'] w (Ret fun r w' => r = .int .i64 (cmpN nm.toList path.toList nm'.toList path'.toList) ∧ ∃ q, w' = w.drewN q) := by
  have x2 : Ext w (w.drewN 1) := inferInstance
  refine W.enter (args := [pt b, pt b']) Tryz.func174 rfl Tryz.ntmps174 rfl rfl ?_
  refine zst ?_
  refine W.regX [(0, .q), (1, .q), (2, .q), (3, .q), (4, .q), (5, .q), (6, .l), (7, .q)] (by kernel_rfl) (by kernel_rfl) rfl ?_
  have ho2 : ObjV (w.drewN 1) b pk nm v := by obtain ⟨tt, r, ho⟩ := ho; exact ⟨tt, r, ho.ext' x2⟩
  have ho2' : ObjV (w.drewN 1) b' pk' nm' v' := by obtain ⟨tt, r, ho⟩ := ho'; exact ⟨tt, r, ho.ext' x2⟩
  obtain ⟨tt, r, hob⟩ := ho2
  obtain ⟨tt', r', hob'⟩ := ho2'
  refine zsd ?_
  refine WD.stp rfl rfl rfl rfl (stp_call rfl (c_cmp b b' pk pk' nm nm' path path' v v' (w.drewN 1) (hp.ext x2) ⟨tt, r, hob⟩ ⟨tt', r', hob'⟩ (hk.ext x2) (hk'.ext x2) ha ha' he)) ?_
  rintro _ _ ⟨rfl, q, rfl⟩
  refine ⟨by first | assumption | exact Ext.rfl' _ | infer_instance, ?_⟩
  refine zsd ?_
  refine zst ?_
  exact fin1 (.inl rfl) rfl rfl ⟨rfl, 1 + q, drewN_drewN w 1 q⟩
end Go.Proofs.YtpiegpegjbmlkaaGreatDoor
namespace Go.Kd
variable {P : Program} {e : Env} {w : World} {d : Option Tmp} {ty t t2 : TypeId} {pos : String} {aft : Array Edge} {g : Option (Nat × Bool)} {x y z : Operand}

theorem Zv.run {v : Value} [h : Zv P t v] : (zeroValue t).run P w = .ok v w := by
  obtain ⟨i, h1, h2⟩ := h.at_
  simp only [zeroValue, typeInfo, program, bind, Sem.bind, Sem.run, h1, pure, h2]

theorem run_getMap {r : Nat} {es : Array MapEntry} {c : Nat} (h : w.heap[r]? = some (.map es c)) : (getObj r).run P w = .ok (.map es c) w := by
  simp [getObj, Sem.run, h]
theorem run_setMap {r : Nat} {es : Array MapEntry} {c : Nat} (o : Obj) (h : w.heap[r]? = some (.map es c)) : (setObj r o).run P w = .ok () { w with heap := w.heap.setIfInBounds r o } := by
  simp [setObj, Sem.run, h]


/-- other keys: pointers, none of them this one -/
def NoKey (w : World) (T : TypeId) (a : Addr) (es : List MapEntry) : Prop :=
  ∀ m ∈ es, ∃ T' a', m.key = .iface T' (.pointer (some a')) ∧ Pl w a'.block ∧ (T' = T → a' ≠ a)

theorem NoKey.ext {w w' : World} (hx : Ext w w') {T : TypeId} {a : Addr} {es : List MapEntry} (h : NoKey w T a es) : NoKey w' T a es := fun m hm => by
  obtain ⟨T', a', h1, h2, h3⟩ := h m hm
  exact ⟨T', a', h1, h2.ext' hx, h3⟩




theorem stp_makeMap : Stp P e ⟨d, .makeMap t none, ty, pos, aft, g⟩ w (fun v w' => ∃ b, v = .map (some b) ∧ New w b (.map #[] 0) w') := ⟨fun ρ _ => by
  simp only [execOp, Instr.makeMap, newObj, bind, Sem.bind, pure]
  exact ⟨_, rfl, New.alloc w _⟩⟩

theorem Upd.setMap {w : World} {b : Nat} {es es' : Array MapEntry} {c c' : Nat} (h : Has w b (.map es c)) : Upd w b (.map es' c') { w with heap := w.heap.setIfInBounds b (.map es' c') } := by
  have hl := h.lt
  refine ⟨⟨by simp [hl]⟩, fun k hk => by simp [Ne.symm hk], by simp, rfl, rfl, rfl⟩

end Go.Kd
namespace Go.Kd
variable {P : Program} {e : Env} {w : World} {d : Option Tmp} {ty t t2 : TypeId} {pos : String} {aft : Array Edge} {g : Option (Nat × Bool)} {x y z : Operand}

/-! ### Methods through an embedded struct at the first place -/
class MthQ (P : Program) (t : TypeId) (name : String) (k : outParam FuncId) : Prop where
  at_ : ∃ i m s fs f, P.info? t = some i ∧ i.methods.find? (·.name == name) = some m ∧ m.path = #[⟨s, 0, true⟩] ∧ m.func = some (k, true) ∧ P.underlying s = some (.struct fs) ∧ fs[0]? = some f ∧ f.offset = 0 ∧ (∃ j, P.info? f.type = some j ∧ j.size ≠ 0) ∧ ∃ gs, P.underlying f.type = some (.struct gs)
def mthQB (P : Program) (t : Nat) (name : String) : Option Nat :=
  match P.info? t with
    | some i => match i.methods.find? (·.name == name) with
      | some m => match m.path.toList with
        | [⟨s, 0, true⟩] => match m.func with
          | some (k, true) => match P.underlying s with
            | some (.struct fs) => match fs[0]? with
              | some f => if f.offset == 0 then (match P.info? f.type with
                | some j => if j.size == 0 then none else (match P.underlying f.type with
                  | some (.struct _) => some k
                  | _ => none)
                | none => none) else none
              | none => none
            | _ => none
          | _ => none
        | _ => none
      | none => none
    | none => none
theorem mthQ_of {P : Program} {t k : Nat} {name : String} (h : mthQB P t name = some k) : MthQ P t name k := by
  unfold mthQB at h
  split at h <;> try (cases h; done)
  rename_i i h1
  split at h <;> try (cases h; done)
  rename_i m h2
  split at h <;> try (cases h; done)
  rename_i s h3
  split at h <;> try (cases h; done)
  rename_i k' h4
  split at h <;> try (cases h; done)
  rename_i fs h5
  split at h <;> try (cases h; done)
  rename_i f h6
  split at h <;> try (cases h; done)
  rename_i h7
  split at h <;> try (cases h; done)
  rename_i j h8
  split at h <;> try (cases h; done)
  rename_i h9
  split at h <;> try (cases h; done)
  rename_i gs h10
  cases h
  refine ⟨i, m, s, fs, f, h1, h2, ?_, h4, h5, h6, by simpa using h7, ⟨j, h8, by simpa using h9⟩, gs, h10⟩
  have := congrArg List.toArray h3
  simpa using this
theorem stp_invokeQ {recv : Operand} {name : String} {args : List Operand} {tys : Array TypeId} {T : TypeId} {b : Nat} {vs : List Value} {k : FuncId} {R : Value → World → Prop}
    [hm : MthQ P T name k] [h : Fun P k] (hr : ev e recv = some (.iface T (.pointer (some ⟨b, 0, none⟩)))) (ha : evs e args = some vs) (hc : Calls P k (.pointer (some ⟨b, 0, none⟩) :: vs).toArray w (Ret R)) :
    Stp P e ⟨d, .call ⟨.invoke recv name, args.toArray, tys⟩, ty, pos, aft, g⟩ w R := ⟨fun ρ hρ => by
  obtain ⟨fn, h1, h2, h3⟩ := h.at_
  obtain ⟨i, m, s, fs, f, k1, k2, k3, k4, k5, k6, k7, ⟨j, k8, k9⟩, gs, k10⟩ := hm.at_
  have hv : args.toArray.map ρ = vs.toArray := by rw [← evs_spec hρ args vs ha]; simp
  have hf : ρ recv = .iface T (.pointer (some ⟨b, 0, none⟩)) := hρ _ _ hr
  have hfp : (fieldPlace ⟨b, 0, none⟩ f).run P w = .ok ⟨b, 0, none⟩ w := by
    unfold fieldPlace
    simp [sizeOf, typeInfo, k8, k9, k7, Addr.add]
  have hmeth : ∀ fuel, (method (fuel + 1) T (.pointer (some ⟨b, 0, none⟩)) name).run P w = .ok (k, .pointer (some ⟨b, 0, none⟩)) w := fun fuel => by
    simp [method, typeInfo, k1, k2, k3, k4, follow, receiverAt, run_underlying k5, run_underlying k10, k6, Place.get, asAddr, hfp]
  have hfuel : P.types.size + Made.depth = (P.types.size + 99) + 1 := by unfold Made.depth; omega
  have hrun : (callMethod (.iface T (.pointer (some ⟨b, 0, none⟩))) name (#[Value.iface T (.pointer (some ⟨b, 0, none⟩))] ++ vs.toArray |>.extract 1 (#[Value.iface T (.pointer (some ⟨b, 0, none⟩))] ++ vs.toArray).size)).run P w = .ok (.enter k (.pointer (some ⟨b, 0, none⟩) :: vs).toArray) w := by
    simp only [callMethod, program, hfuel, Sem.run_bind, Sem.run, Result.andThen_ok, hmeth]
    have hx : (#[Value.iface T (.pointer (some ⟨b, 0, none⟩))] ++ vs.toArray |>.extract 1 (#[Value.iface T (.pointer (some ⟨b, 0, none⟩))] ++ vs.toArray).size) = vs.toArray := by simp
    rw [hx]
    simp only [callFunc, program, bind, Sem.bind, Sem.run, h1, h2, h3, Bool.false_eq_true, if_false, pure]
    simp
  simp only [execOp, resolve, hv, hf, invoke]
  have hsome : (#[Value.iface T (.pointer (some ⟨b, 0, none⟩))] ++ vs.toArray)[0]? = some (.iface T (.pointer (some ⟨b, 0, none⟩))) := by simp
  simp only [Sem.run_bind, Sem.run, pure, Result.andThen_ok, hsome, hrun]
  exact hc⟩

/-! ### Maps keyed by strings -/
def SM : List MapEntry → List (List UInt8 × Value) → Prop
  | [], [] => True
  | m :: r, p :: q => (∃ s : ByteArray, m.key = .string s ∧ s.toList = p.1) ∧ m.val = p.2 ∧ SM r q
  | _, _ => False
theorem SM.push : ∀ {es : List MapEntry} {l : List (List UInt8 × Value)}, SM es l → ∀ {m : MapEntry} {p : List UInt8 × Value}, (∃ s : ByteArray, m.key = .string s ∧ s.toList = p.1) → m.val = p.2 → SM (es ++ [m]) (l ++ [p])
  | [], [], _, _, _, h1, h2 => ⟨h1, h2, trivial⟩
  | _ :: _, _ :: _, h, _, _, h1, h2 => ⟨h.1, h.2.1, SM.push h.2.2 h1 h2⟩
  | [], _ :: _, h, _, _, _, _ => h.elim
  | _ :: _, [], h, _, _, _, _ => h.elim
theorem findNow_str (s : ByteArray) : ∀ (es : List MapEntry) (l : List (List UInt8 × Value)) (i : Nat), SM es l →
    (∀ p ∈ l, p.1 ≠ s.toList) → Instr.findNow .string (.string s) es i = some none
  | [], [], _, _, _ => rfl
  | m :: r, p :: q, i, h, hn => by
    obtain ⟨⟨k, h1, h2⟩, _, h3⟩ := h
    have hne : (s == k) = false := by
      rw [beq_toListBytes, beq_eq_false_iff_ne]
      intro e
      exact hn p (List.mem_cons_self ..) (by rw [← h2, e])
    unfold Instr.findNow
    rw [h1]
    simp only [Instr.sameNow, hne]
    exact findNow_str s r q (i + 1) h3 fun p hp => hn p (List.mem_cons_of_mem _ hp)
  | [], _ :: _, _, h, _ => h.elim
  | _ :: _, [], _, h, _ => h.elim
theorem findNow_str_yes (s : ByteArray) : ∀ (es : List MapEntry) (l : List (List UInt8 × Value)) (i : Nat), SM es l →
    (∃ p ∈ l, p.1 = s.toList) → ∃ j p, p ∈ l ∧ p.1 = s.toList ∧ Instr.findNow .string (.string s) es i = some (some (j, p.2))
  | [], [], _, _, hn => by obtain ⟨p, hp, _⟩ := hn; cases hp
  | m :: r, p :: q, i, h, hn => by
    obtain ⟨⟨k, h1, h2⟩, h4, h3⟩ := h
    by_cases hk : p.1 = s.toList
    · refine ⟨i, p, List.mem_cons_self .., hk, ?_⟩
      have : (s == k) = true := by rw [beq_toListBytes, h2, hk]; exact beq_self_eq_true _
      unfold Instr.findNow
      rw [h1]
      simp only [Instr.sameNow, this, h4]
    · have hne : (s == k) = false := by
        rw [beq_toListBytes, beq_eq_false_iff_ne]
        intro e
        exact hk (by rw [← h2, e])
      obtain ⟨p', hp', hq⟩ := hn
      rcases List.mem_cons.1 hp' with rfl | hp'
      · exact absurd hq hk
      · obtain ⟨j, p2, k1, k2, k3⟩ := findNow_str_yes s r q (i + 1) h3 ⟨p', hp', hq⟩
        refine ⟨j, p2, List.mem_cons_of_mem _ k1, k2, ?_⟩
        unfold Instr.findNow
        rw [h1]
        simp only [Instr.sameNow, hne]
        exact k3
  | [], _ :: _, _, h, _ => h.elim
  | _ :: _, [], _, h, _ => h.elim
theorem run_findKey_str {key : TypeId} [h : Und P key .string] {s : ByteArray} {es : List MapEntry} {r : Option (Nat × Value)} (hn : Instr.findNow .string (.string s) es 0 = some r) :
    (Instr.findKey key (.string s) es).run P w = .ok r w := by
  unfold Instr.findKey
  simp only [Sem.run_bind, run_underlying h.at_, Result.andThen_ok, hn]
  rfl
theorem run_checkKey_str {key : TypeId} [h : Und P key .string] {emp : Bool} {s : ByteArray} : (Instr.checkKey emp 10000 key (.string s)).run P w = .ok () w := by
  have hk : ∀ k : Nat, (Instr.checkKey emp (k + 1) key (.string s)).run P w = .ok () w := fun k => by
    rw [Instr.checkKey]
    simp [run_underlying h.at_]
  exact hk 9999
theorem yld_lookupS_nil {key el : TypeId} {s : ByteArray} {zv : Value} [hm : Und P t (.map key el)] [h : Und P key .string] [hz : Zv P el zv]
    (hx : ev e x = some (.map none)) (hy : ev e y = some (.string s)) : Yld P e ⟨d, .lookup t x y false, ty, pos, aft, g⟩ zv w := ⟨fun ρ hρ w' _ => by
  have h0 := run_findKey_str (P := P) (w := w') (key := key) (s := s) (es := []) (r := none) rfl
  simp [execOp, hρ x _ hx, hρ y _ hy, Instr.lookup, Sem.run_bind, run_underlying hm.at_, run_checkKey_str (P := P) (w := w') (key := key), h0, hz.run]⟩
theorem stp_lookupS {key el : TypeId} {s : ByteArray} {zv v : Value} {r : Nat} {es : Array MapEntry} {c : Nat} {q : Option (Nat × Value)} [hm : Und P t (.map key el)] [h : Und P key .string] [hz : Zv P el zv]
    (hx : ev e x = some (.map (some r))) (hy : ev e y = some (.string s)) (hr : Has w r (.map es c)) (hq : Instr.findNow .string (.string s) es.toList 0 = some q) (hv : v = (match q with | some p => p.2 | none => zv)) :
    Stp P e ⟨d, .lookup t x y false, ty, pos, aft, g⟩ w (fun v' w' => v' = v ∧ w = w') := ⟨fun ρ hρ => by
  have h0 := run_findKey_str (P := P) (w := w) (key := key) (s := s) hq
  subst hv
  cases q <;> simp [execOp, hρ x _ hx, hρ y _ hy, Instr.lookup, Sem.run_bind, run_underlying hm.at_, run_checkKey_str (P := P) (w := w) (key := key), h0, hz.run, run_getMap hr.at_]⟩
theorem stp_mapNewS {key el : TypeId} {s : ByteArray} {v : Value} {r : Nat} {es : Array MapEntry} {c : Nat} [hm : Und P t (.map key el)] [h : Und P key .string]
    (hx : ev e x = some (.map (some r))) (hy : ev e y = some (.string s)) (hv : ev e z = some v) (hr : Has w r (.map es c)) (hq : Instr.findNow .string (.string s) es.toList 0 = some none) :
    Stp P e ⟨d, .mapUpdate t x y z, ty, pos, aft, g⟩ w (fun _ w' => Upd w r (.map (es.push ⟨.string s, v, c⟩) (c + 1)) w') := ⟨fun ρ hρ => by
  have h0 := run_findKey_str (P := P) (w := w) (key := key) (s := s) hq
  have hu := Upd.setMap (es' := es.push ⟨.string s, v, c⟩) (c' := c + 1) hr
  simp [execOp, hρ x _ hx, hρ y _ hy, hρ z _ hv, Instr.mapUpdate, Sem.run_bind, run_underlying hm.at_, run_checkKey_str (P := P) (w := w) (key := key), h0, run_getMap hr.at_, run_setMap _ hr.at_]
  exact hu⟩
/-- a new row, of elements of one cell -/
theorem stp_makeSlice {el : TypeId} {z0 : Value} {n : Nat} {k k2 : IntKind} [hu : Und P t (.slice el)] [hz : Zro P el [z0]] [hi : Inf P el 1] [hb : Byt P el] (hx : ev e x = some (.int k (n : Int))) (hy : ev e y = some (.int k2 (n : Int))) (hn : n ≤ 1073741824) :
    Stp P e ⟨d, .makeSlice t x y, ty, pos, aft, g⟩ w (fun v w' => ∃ b, v = .slice (some ⟨b, 0, none⟩) n n ∧ New w b (.cells (List.replicate n z0).toArray el) w') := ⟨fun ρ hρ => by
  obtain ⟨i, zv, h2, h3, h4⟩ := hz.at_
  obtain ⟨i', h5, h6⟩ := hi.at_
  obtain ⟨i2, h7, h8⟩ := hb.at_
  obtain rfl : i = i' := by rw [h2] at h5; exact Option.some.inj h5
  obtain rfl : i = i2 := by rw [h2] at h7; exact Option.some.inj h7
  have hbytes : (i.bytes : Int) * (n : Int) ≤ 281474976710656 := by
    have : i.bytes * n ≤ 4096 * 1073741824 := Nat.mul_le_mul h8 hn
    have h9 : ((i.bytes * n : Nat) : Int) ≤ 4096 * 1073741824 := by omega
    rw [Int.natCast_mul] at h9
    omega
  have hr := run_make (P := P) w t el i zv hu.at_ h2 h3 k k2 n n (by omega) (Int.le_refl _) hbytes (by omega)
  simp only [Int.toNat_natCast, h6, Nat.mul_one, h4] at hr
  have hm : madeCells #[z0] n = (List.replicate n z0).toArray := by
    rw [← toList_madeCells_one z0 n]
  rw [hm] at hr
  simp only [execOp, hρ x _ hx, hρ y _ hy, Sem.run_bind, hr, Result.andThen_ok, Sem.run_pure]
  exact ⟨_, rfl, New.alloc w _⟩⟩
end Go.Kd
namespace Go.Proofs.YtpiegpegjbmlkaaGreatDoor
open Go Go.Kd
set_option maxRecDepth 100000

instance : MthQ Tryz.prog 80 "Id" 139 := mthQ_of (by kernel_rfl)
instance : MthQ Tryz.prog 132 "Id" 139 := mthQ_of (by kernel_rfl)
abbrev tOS : Nat := 252
abbrev tVA : Nat := 80
abbrev tFN : Nat := 132
theorem bel_new {B : Nat} {w0 w w' : World} {b : Nat} {o : Obj} (h : RowKit.Below B w0 w) (n : New w b o w') (hb : B ≤ w.heap.size) : RowKit.Below B w0 w' := h.trans (n.ext.below.mono hb)
theorem bel_ext {B : Nat} {w0 w w' : World} (h : RowKit.Below B w0 w) (n : Ext w w') (hb : B ≤ w.heap.size) : RowKit.Below B w0 w' := h.trans (n.below.mono hb)
theorem bel_upd {B : Nat} {w0 w w' : World} {b : Nat} {o : Obj} (h : RowKit.Below B w0 w) (u : Upd w b o w') (hb : B ≤ b) : RowKit.Below B w0 w' :=
  ⟨u.os.trans h.os, u.tape.trans h.tape, u.output.trans h.output, by rw [u.size]; exact h.size, fun k hk => by rw [u.oth k (by omega)]; exact h.block k hk⟩
theorem Has.bel {B : Nat} {w w' : World} {b : Nat} {o : Obj} (x : RowKit.Below B w w') (hb : b < B) (h : Has w b o) : Has w' b o := ⟨(x.block b hb).trans h.at_⟩

theorem RowP.ext {w w' : World} (x : Ext w w') {t : Nat} {a : Option Addr} {n : Nat} {f : Nat → Nat} (h : RowP w t a n f) : RowP w' t a n f := fun i hi => by
  obtain ⟨b, cs, h1, h2, h3⟩ := h i hi
  exact ⟨b, cs, h1, h2.ext' x, h3⟩
theorem RowP.cell {w : World} {t : Nat} {a : Option Addr} {n : Nat} {f : Nat → Nat} (h : RowP w t a n f) {i : Nat} (hi : i < n) : ∃ b, a = some ⟨b, 0, none⟩ ∧ w.cell? ⟨b, 0 + i * 1, none⟩ = some (pt (f i)) := by
  obtain ⟨b, cs, h1, h2, h3⟩ := h i hi
  exact ⟨b, h1, by rw [Nat.mul_one, Nat.zero_add]; exact cell_of h2 h3⟩

structure OSet (w : World) (base ps : Nat) (l : List (List UInt8 × Value)) : Prop where
  bs : base ≤ ps
  ifs : ∀ p ∈ l, ∃ T v, p.2 = .iface T v
  at_ : (Has w ps (.cells #[.map none] tOS) ∧ l = []) ∨ ∃ r es c, base ≤ r ∧ r ≠ ps ∧ Has w ps (.cells #[.map (some r)] tOS) ∧ Has w r (.map es c) ∧ SM es.toList l ∧ l ≠ []
theorem OSet.ext {w w' : World} {base ps : Nat} {l : List (List UInt8 × Value)} (x : Ext w w') (h : OSet w base ps l) : OSet w' base ps l := ⟨h.bs, h.ifs, by
  rcases h.at_ with ⟨h1, h2⟩ | ⟨r, es, c, h1, h2, h3, h4, h5⟩
  · exact .inl ⟨h1.ext' x, h2⟩
  · exact .inr ⟨r, es, c, h1, h2, h3.ext' x, h4.ext' x, h5⟩⟩
theorem OSet.upd {w w' : World} {base ps : Nat} {l : List (List UInt8 × Value)} {b : Nat} {o : Obj} (h : OSet w base ps l) (u : Upd w b o w') (hb : b ≠ ps) (hm : ∀ es c, ¬ Has w b (.map es c)) : OSet w' base ps l := ⟨h.bs, h.ifs, by
  rcases h.at_ with ⟨h1, h2⟩ | ⟨r, es, c, h1, h2, h3, h4, h5⟩
  · exact .inl ⟨⟨(u.oth _ (Ne.symm hb)).trans h1.at_⟩, h2⟩
  · exact .inr ⟨r, es, c, h1, h2, ⟨(u.oth _ (Ne.symm hb)).trans h3.at_⟩, ⟨(u.oth _ (fun e => hm es c (e ▸ h4))).trans h4.at_⟩, h5⟩⟩

set_option maxHeartbeats 1000000 in
theorem c_insert (T base ps b : Nat) [MthQ Tryz.prog T "Id" 139] (l : List (List UInt8 × Value)) (pk : Value) (nm path : ByteArray) (v : Value) (w : World) (hO : OSet w base ps l) (hb : base ≤ w.heap.size)
    (hp : Prp w) (ho : ObjV w b pk nm v) (hk : PkV w nm pk path) (ha : Asc nm) (hz : path.size + nm.size ≤ 4611686018427387904) :
    Calls Tryz.prog 150 #[pt ps, .iface T (pt b)] w (Ret fun r w' => RowKit.Below base w w' ∧
      (((∃ p ∈ l, p.1 = idS nm.toList path.toList) ∧ (∃ T' v', r = .iface T' v') ∧ OSet w' base ps l) ∨
       ((∀ p ∈ l, p.1 ≠ idS nm.toList path.toList) ∧ r = .nilIface ∧ OSet w' base ps (l ++ [(idS nm.toList path.toList, .iface T (pt b))]))) ∧
      ∀ d o, d < w.heap.size → d ≠ ps → w.heap[d]? = some o → (∀ es c, o = .map es c → l ≠ [] → ¬ SM es.toList l) → w'.heap[d]? = some o) := by
  have hif : ∀ p ∈ l ++ [(idS nm.toList path.toList, Value.iface T (pt b))], ∃ T v, p.2 = .iface T v := fun p hp => by
    rcases List.mem_append.1 hp with h | h
    · exact hO.ifs p h
    · simp at h; subst h; exact ⟨_, _, rfl⟩
  refine W.enter (args := [pt ps, .iface T (pt b)]) Tryz.func150 rfl Tryz.ntmps150 rfl rfl ?_
  refine zst ?_
  refine WU.stp rfl rfl rfl (stp_invokeQ rfl rfl (c_Id b pk nm path v w hp ho hk ha hz)) ?_
  rintro _ w1 ⟨⟨s, rfl, hs⟩, x1⟩
  have hO1 := hO.ext x1
  have hb1 : base ≤ w1.heap.size := Nat.le_trans hb x1.size
  rcases hO1.at_ with ⟨h1, rfl⟩ | ⟨r, es, c, h1, h2, h3, h4, h5, hln⟩
  · refine zst ?_
    refine WU.yld rfl rfl rfl (yld_lookupS_nil rfl rfl) ?_
    refine zst ?_
    refine WU.stp rfl rfl rfl stp_makeMap ?_
    rintro _ w2 ⟨m, rfl, n2⟩
    have h1' := h1.ext' n2.ext
    refine zst ?_
    refine WU.stp0 rfl rfl (stp_store_cell rfl rfl rfl rfl) ?_
    rintro _ w3 u3
    have hne : m ≠ ps := fun e => by have := n2.num; have := h1.lt; omega
    have hm3 : Has w3 m (.map #[] 0) := ⟨(u3.oth m hne).trans n2.has.at_⟩
    refine zst ?_
    refine WU.stp0 rfl rfl (stp_mapNewS rfl rfl rfl hm3 rfl) ?_
    rintro _ w4 u4
    refine zst ?_
    refine fin1 (.inl rfl) rfl rfl ⟨?_, .inr ⟨fun p hp => (by cases hp), rfl, ⟨hO.bs, hif, .inr ⟨m, _, _, by have := n2.num; omega, hne, ⟨(u4.oth ps (Ne.symm hne)).trans u3.has.at_⟩, u4.has, ?_⟩⟩⟩, fun d o hd hdp ho _ => ?_⟩
    · exact bel_upd (bel_upd (bel_new (x1.below.mono hb) n2 hb1) u3 hO.bs) u4 (by have := n2.num; omega)
    · exact ⟨⟨⟨s, rfl, hs⟩, rfl, trivial⟩, by simp⟩
    · have hs2 := n2.num
      have hs1 := x1.size
      rw [u4.oth d (by omega), u3.oth d hdp, n2.ext.below.block d (by omega), x1.below.block d hd]
      exact ho
  · by_cases hin : ∃ p ∈ l, p.1 = s.toList
    · obtain ⟨j, p, k1, k2, k3⟩ := findNow_str_yes s es.toList l 0 h5 hin
      obtain ⟨T', v', hv'⟩ := hO.ifs p k1
      refine zst ?_
      refine WU.stp rfl rfl rfl (stp_lookupS rfl rfl h4 k3 rfl) ?_
      rintro _ _ ⟨rfl, rfl⟩
      dsimp only
      rw [hv']
      refine zst ?_
      exact fin1 (.inl rfl) rfl rfl ⟨x1.below.mono hb, .inl ⟨⟨p, k1, by rw [← hs, k2]⟩, ⟨_, _, rfl⟩, hO1⟩, fun d o hd _ ho _ => (x1.below.block d hd).trans ho⟩
    · have hno : ∀ p ∈ l, p.1 ≠ s.toList := fun p hp e => hin ⟨p, hp, e⟩
      have k3 := findNow_str s es.toList l 0 h5 hno
      refine zst ?_
      refine WU.stp rfl rfl rfl (stp_lookupS rfl rfl h4 k3 rfl) ?_
      rintro _ _ ⟨rfl, rfl⟩
      dsimp only
      refine zst ?_
      refine WU.stp0 rfl rfl (stp_mapNewS rfl rfl rfl h4 k3) ?_
      rintro _ w4 u4
      refine zst ?_
      refine fin1 (.inl rfl) rfl rfl ⟨bel_upd (x1.below.mono hb) u4 h1, .inr ⟨by rw [← hs]; exact hno, rfl, ⟨hO.bs, hif, .inr ⟨r, _, _, h1, h2, ⟨(u4.oth ps (Ne.symm h2)).trans h3.at_⟩, u4.has, ?_⟩⟩⟩, fun d o hd hdp ho hno => ?_⟩
      · refine ⟨?_, by simp⟩
        rw [Array.toList_push]
        exact h5.push ⟨s, rfl, hs⟩ rfl
      · have h6 := (x1.below.block d hd).trans ho
        rw [u4.oth d fun e => ?_]
        · exact h6
        · subst e
          have h7 := h4.at_.symm.trans h6
          simp only [Option.some.injEq] at h7
          exact hno es c h7.symm hln h5

theorem c_markComplete (b : Nat) (fa ta : Option Addr) (n fc tn tc : Nat) (w : World) (h : Has w b (.cells #[.slice fa n fc, .slice ta tn tc] 98)) (hn : fa = none → n = 0) :
    Calls Tryz.prog 153 #[pt b] w (Ret fun _ w' => ∃ fa' fc', (fa ≠ none → fa' = fa) ∧ (Has w' b (.cells #[.slice fa' n fc', .slice ta tn tc] 98)) ∧ RowKit.Below b w w') := by
  refine W.enter (args := [pt b]) Tryz.func153 rfl Tryz.ntmps153 rfl rfl ?_
  refine zst ?_
  cases fa with
  | none =>
    obtain rfl := hn rfl
    refine zst ?_
    refine WU.stp rfl rfl rfl (stp_makeSlice (n := 0) rfl rfl (by omega)) ?_
    rintro _ w1 ⟨b1, rfl, n1⟩
    have h1 := h.ext' n1.ext
    refine zst ?_
    refine WU.stp0 rfl rfl (stp_store_cell rfl rfl rfl rfl) ?_
    rintro _ w2 u2
    refine zst ?_
    exact fin0 (.inr rfl) rfl ⟨_, _, fun h => absurd rfl h, u2.has, bel_upd (n1.ext.below.mono (by have := h.lt; omega)) u2 (Nat.le_refl _)⟩
  | some a =>
    refine zst ?_
    exact fin0 (.inr rfl) rfl ⟨_, _, fun _ => rfl, h, RowKit.Below.refl ..⟩

theorem us_bytes : (⟨#[95]⟩ : ByteArray).toList = us := by rw [Lib.toList_data]; rfl
/-! ### Ids are told apart -/
theorem letter46 : letter 46 = false := by decide
theorem digit46 : digit 46 = false := by decide
theorem Ident.nodot {s : List UInt8} (h : Ident s) : ∀ c ∈ s, c ≠ 46 := fun c hc e => by
  subst e
  rcases h.at_ with h1 | h1
  · rw [h1] at hc; simp [us] at hc
  · obtain ⟨i, hi, he⟩ := List.mem_iff_getElem.1 hc
    rcases h1 i 46 (by rw [List.getElem?_eq_getElem hi, he]) with h2 | ⟨_, h2⟩
    · rw [letter46] at h2; cases h2
    · rw [digit46] at h2; cases h2
theorem dot_split : ∀ {p q a b : List UInt8}, (∀ c ∈ p, c ≠ 46) → (∀ c ∈ q, c ≠ 46) → p ++ 46 :: a = q ++ 46 :: b → p = q ∧ a = b
  | [], [], _, _, _, _, h => ⟨rfl, by simpa using h⟩
  | [], c :: q, _, _, _, hq, h => by simp at h; exact absurd h.1.symm (hq c (List.mem_cons_self ..))
  | c :: p, [], _, _, hp, _, h => by simp at h; exact absurd h.1 (hp c (List.mem_cons_self ..))
  | c :: p, d :: q, a, b, hp, hq, h => by
    simp only [List.cons_append, List.cons.injEq] at h
    obtain ⟨h1, h2⟩ := dot_split (fun c hc => hp c (List.mem_cons_of_mem _ hc)) (fun c hc => hq c (List.mem_cons_of_mem _ hc)) h.2
    exact ⟨by rw [h.1, h1], h2⟩
theorem idS_inj {a b p q : List UInt8} (ha : Ident a) (hb : Ident b) (hp : ∀ c ∈ p, c ≠ 46) (hq : ∀ c ∈ q, c ≠ 46) (h : idS a p = idS b q) : a = b ∧ (expo a = true ∨ p = q) := by
  unfold idS at h
  cases h1 : expo a <;> cases h2 : expo b <;> simp only [h1, h2, if_true, if_false, Bool.false_eq_true] at h
  · obtain ⟨h3, h4⟩ := dot_split hp hq h
    exact ⟨h4, .inr h3⟩
  · exact absurd rfl (hb.nodot 46 (by rw [← h]; simp))
  · exact absurd rfl (ha.nodot 46 (by rw [h]; simp))
  · exact ⟨h, .inl rfl⟩

set_option maxHeartbeats 1000000 in
theorem c_NewStruct (fa ta : Option Addr) (n fc tn tc : Nat) (vb : Nat → Nat) (nm : Nat → ByteArray) (vv : Nat → Value) (em : Nat → Bool) (pk : Value) (path : ByteArray) (w : World) (hp : Prp w)
    (hr : RowP w 80 fa n vb) (hv : ∀ i, i < n → VarV w (vb i) pk (nm i) (vv i) 6 (em i)) (hk : ∀ i, i < n → PkV w (nm i) pk path) (hid : ∀ i, i < n → Ident (nm i).toList) (hpd : ∀ c ∈ path.toList, c ≠ 46)
    (hun : ∀ i j, i < j → j < n → (nm i).toList = (nm j).toList → (nm i).toList = us) (hz : ∀ i, i < n → path.size + (nm i).size ≤ 4611686018427387904) (hn : n ≤ 1073741824) (htn : tn ≤ n) :
    Calls Tryz.prog 119 #[.slice fa n fc, .slice ta tn tc] w (Ret fun r w' => ∃ b fa' fc', r = pt b ∧ (fa ≠ none → fa' = fa) ∧ w.heap.size ≤ b ∧ Has w' b (.cells #[.slice fa' n fc', .slice ta tn tc] 98) ∧ Ext w w') := by
  refine W.enter (args := [.slice fa n fc, .slice ta tn tc]) Tryz.func119 rfl Tryz.ntmps119 rfl rfl ?_
  refine zst ?_
  refine WU.stp rfl rfl rfl stp_alloc ?_
  rintro _ w1 ⟨b1, rfl, n1⟩
  refine zst ?_
  refine W.loop (σ := Nat) (fun k => [(11, .int .i64 k), (10, .int .i64 n), (9, .slice fa n fc), (5, .pointer (some ⟨b1, 0, none⟩)), (1, .slice ta tn tc), (0, .slice fa n fc)])
    (fun k D' wk => D' = [] ∧ k ≤ n ∧ Ext w wk ∧ w.heap.size < wk.heap.size ∧ ∃ l, OSet wk w.heap.size b1 l ∧ ∀ p ∈ l, ∃ j, j < k ∧ (nm j).toList ≠ us ∧ p.1 = idS (nm j).toList path.toList)
    (fun k => n - k) 0 ⟨rfl, Nat.zero_le _, n1.ext, by rw [n1.size]; omega, [], ⟨by rw [n1.num]; exact Nat.le_refl _, fun p hp => (by cases hp), .inl ⟨n1.has, rfl⟩⟩, fun p hp => (by cases hp)⟩ (by exact sub_of ⟨rfl, rfl, rfl, rfl, rfl, rfl, trivial⟩) ?_
  rintro k D' wk ⟨rfl, hk', xk, hsz, l, hO, hl⟩
  refine zst ?_
  by_cases hlt : k < n
  · rw [show decide ((k : Int) < (n : Int)) = true by simpa using hlt]
    obtain ⟨rb, rfl, hrc⟩ := (hr.ext xk).cell hlt
    have hvk := hv k hlt
    have hvw : VarV wk (vb k) pk (nm k) (vv k) 6 (em k) := hvk.ext' xk
    have hvw' : Has wk (vb k) (.cells #[.int .i64 0, pk, .string (nm k), vv k, .int .u8 6, .bool (em k)] 106) := hvw
    refine zst ?_
    refine WU.yld rfl rfl rfl (yld_load_c rfl hrc) ?_
    refine zst ?_
    rw [us_bytes]
    cases hus : ((nm k).toList == us)
    · refine zst ?_
      have hne : (nm k).toList ≠ us := fun e => by rw [e] at hus; simp at hus
      refine WU.stp rfl rfl rfl (stp_call rfl (c_insert 80 w.heap.size b1 (vb k) l pk (nm k) path (vv k) wk hO xk.size (hp.ext xk) hvw.obj ((hk k hlt).ext xk) (hid k hlt).asc (hz k hlt))) ?_
      rintro r wl ⟨bl, (⟨⟨p, hp1, hp2⟩, _, _⟩ | ⟨h1, rfl, h2⟩), _⟩
      · exfalso
        obtain ⟨j, hj, hj2, hj3⟩ := hl p hp1
        rw [hj3] at hp2
        have := (idS_inj (hid j (by omega)) (hid k hlt) hpd hpd hp2).1
        exact hj2 (hun j k hj hlt this)
      · refine zst ?_
        exact ⟨k + 1, by omega, ⟨rfl, by omega, ⟨xk.below.trans bl⟩, Nat.lt_of_lt_of_le hsz bl.size, _, h2, fun p hp => by
          rcases List.mem_append.1 hp with h | h
          · obtain ⟨j, hj, hj2, hj3⟩ := hl p h
            exact ⟨j, by omega, hj2, hj3⟩
          · simp at h; subst h; exact ⟨k, by omega, hne, rfl⟩⟩, sub_of ⟨rfl, rfl, rfl, rfl, rfl, rfl, trivial⟩⟩
    · refine zst ?_
      exact ⟨k + 1, by omega, ⟨rfl, by omega, xk, hsz, l, hO, fun p hp => by
          obtain ⟨j, hj, hj2, hj3⟩ := hl p hp
          exact ⟨j, by omega, hj2, hj3⟩⟩, sub_of ⟨rfl, rfl, rfl, rfl, rfl, rfl, trivial⟩⟩
  · rw [show decide ((k : Int) < (n : Int)) = false by simpa using hlt]
    refine zst ?_
    rw [show decide ((tn : Int) > (n : Int)) = false by simp; omega]
    refine zst ?_
    refine WU.stp rfl rfl rfl (by first | exact stp_box rfl rfl | exact stp_box1 rfl rfl) ?_
    rintro _ w3 ⟨b3, rfl, n3⟩
    refine zst ?_
    refine WU.stp rfl rfl rfl (stp_call rfl (c_markComplete b3 fa ta n fc tn tc w3 n3.has fun h => ?_)) ?_
    · subst h
      by_cases h0 : n = 0
      · exact h0
      · obtain ⟨rb, cs, h1, _⟩ := hr 0 (by omega)
        cases h1
    rintro _ w4 ⟨fa', fc', h1, h2, h3⟩
    refine zst ?_
    have hge : w.heap.size ≤ b3 := by have := n3.num; omega
    exact fin1 (.inl rfl) rfl rfl ⟨b3, fa', fc', rfl, h1, hge, h2, ⟨(xk.trans n3.ext).below.trans (h3.mono hge)⟩⟩
end Go.Proofs.YtpiegpegjbmlkaaGreatDoor
namespace Go.Proofs.YtpiegpegjbmlkaaGreatDoor
open Go Go.Kd Go.Shelf
set_option maxRecDepth 100000
def sortM_ren : Go.Shelf.Ren := ⟨fun | 6 => 173 | 15 => 197 | 14 => 196 | 28 => 224 | 29 => 225 | 20 => 216 | 21 => 217 | 22 => 218 | 23 => 219 | 24 => 220 | 25 => 221 | 26 => 222 | 27 => 223 | 46 => 229 | 47 => 230 | 48 => 231 | 49 => 232 | 50 => 233 | 57 => 237 | n => n, fun | 22 => 171 | 24 => 132 | 25 => 291 | 3 => 3 | 39 => 311 | 0 => 0 | 53 => 179 | 55 => 345 | 4 => 4 | 46 => 337 | 45 => 336 | 50 => 341 | 5 => 5 | 9 => 9 | 66 => 357 | 70 => 361 | 76 => 373 | 77 => 374 | n => n, fun | n => n⟩
theorem sortM : Go.Proofs.SlLaysF.n6 Tryz.prog sortM_ren := {
  mixed := by kernel_rfl
  f6 := ⟨Tryz.f173.name, by decide, Tryz.func173.trans (congrArg some (by kernel_rfl))⟩
  f14 := ⟨Tryz.f196.name, by decide, Tryz.func196.trans (congrArg some (by kernel_rfl))⟩
  f15 := Tryz.func197.trans (congrArg some (by kernel_rfl))
  f20 := ⟨Tryz.f216.name, by decide, Tryz.func216.trans (congrArg some (by kernel_rfl))⟩
  f21 := ⟨Tryz.f217.name, by decide, Tryz.func217.trans (congrArg some (by kernel_rfl))⟩
  f22 := ⟨Tryz.f218.name, by decide, Tryz.func218.trans (congrArg some (by kernel_rfl))⟩
  f23 := ⟨Tryz.f219.name, by decide, Tryz.func219.trans (congrArg some (by kernel_rfl))⟩
  f24 := ⟨Tryz.f220.name, by decide, Tryz.func220.trans (congrArg some (by kernel_rfl))⟩
  f25 := ⟨Tryz.f221.name, by decide, Tryz.func221.trans (congrArg some (by kernel_rfl))⟩
  f26 := ⟨Tryz.f222.name, by decide, Tryz.func222.trans (congrArg some (by kernel_rfl))⟩
  f27 := ⟨Tryz.f223.name, by decide, Tryz.func223.trans (congrArg some (by kernel_rfl))⟩
  f28 := Tryz.func224.trans (congrArg some (by kernel_rfl))
  f29 := Tryz.func225.trans (congrArg some (by kernel_rfl))
  f46 := ⟨Tryz.f229.name, by decide, Tryz.func229.trans (congrArg some (by kernel_rfl))⟩
  f47 := Tryz.func230.trans (congrArg some (by kernel_rfl))
  f48 := Tryz.func231.trans (congrArg some (by kernel_rfl))
  f49 := ⟨Tryz.f232.name, by decide, Tryz.func232.trans (congrArg some (by kernel_rfl))⟩
  f50 := ⟨Tryz.f233.name, by decide, Tryz.func233.trans (congrArg some (by kernel_rfl))⟩
  f57 := ⟨Tryz.f237.name, by decide, Tryz.func237.trans (congrArg some (by kernel_rfl))⟩
  t0 := Tryz.underlying0
  a0 := Tryz.isAgg0
  z0 := Tryz.sizeOf0
  v0 := Tryz.zeroValue0
  t3 := Tryz.underlying3
  a3 := Tryz.isAgg3
  z3 := Tryz.sizeOf3
  v3 := Tryz.zeroValue3
  t4 := Tryz.underlying4
  a4 := Tryz.isAgg4
  z4 := Tryz.sizeOf4
  v4 := Tryz.zeroValue4
  t5 := Tryz.underlying5
  a5 := Tryz.isAgg5
  z5 := Tryz.sizeOf5
  v5 := Tryz.zeroValue5
  t9 := Tryz.underlying9
  a9 := Tryz.isAgg9
  z9 := Tryz.sizeOf9
  v9 := Tryz.zeroValue9
  t22 := Tryz.underlying171
  a22 := Tryz.isAgg171
  z22 := Tryz.sizeOf171
  v22 := Tryz.zeroValue171
  a24 := Tryz.isAgg132
  z24 := Tryz.sizeOf132
  t25 := Tryz.underlying291
  a25 := Tryz.isAgg291
  z25 := Tryz.sizeOf291
  v25 := Tryz.zeroValue291
  t39 := Tryz.underlying311
  a39 := Tryz.isAgg311
  z39 := Tryz.sizeOf311
  v39 := Tryz.zeroValue311
  t45 := Tryz.underlying336
  a45 := Tryz.isAgg336
  z45 := Tryz.sizeOf336
  v45 := Tryz.zeroValue336
  t46 := Tryz.underlying337
  a46 := Tryz.isAgg337
  z46 := Tryz.sizeOf337
  v46 := Tryz.zeroValue337
  t50 := Tryz.underlying341
  a50 := Tryz.isAgg341
  z50 := Tryz.sizeOf341
  v50 := Tryz.zeroValue341
  t53 := Tryz.underlying179
  a53 := Tryz.isAgg179
  z53 := Tryz.sizeOf179
  v53 := Tryz.zeroValue179
  t55 := Tryz.underlying345
  a55 := Tryz.isAgg345
  z55 := Tryz.sizeOf345
  v55 := Tryz.zeroValue345
  t66 := Tryz.underlying357
  a66 := Tryz.isAgg357
  z66 := Tryz.sizeOf357
  v66 := Tryz.zeroValue357
  t70 := Tryz.underlying361
  a70 := Tryz.isAgg361
  z70 := Tryz.sizeOf361
  v70 := Tryz.zeroValue361
  t76 := Tryz.underlying373
  a76 := Tryz.isAgg373
  z76 := Tryz.sizeOf373
  v76 := Tryz.zeroValue373
  t77 := Tryz.underlying374
  a77 := Tryz.isAgg374
  z77 := Tryz.sizeOf374
  v77 := Tryz.zeroValue374 }

/-! ### The order -/
theorem cb_anti : ∀ a b, Lib.compareBytes b a = - Lib.compareBytes a b
  | [], [] => rfl
  | [], _ :: _ => rfl
  | _ :: _, [] => rfl
  | a :: s, b :: t => by
    unfold Lib.compareBytes
    have ih := cb_anti s t
    have h1 := @UInt8.lt_iff_toNat_lt a b
    have h2 := @UInt8.lt_iff_toNat_lt b a
    by_cases h : a < b
    · have h' : ¬ b < a := by rw [h2]; rw [h1] at h; omega
      simp only [h, h', if_true, if_false]; rfl
    · by_cases h' : b < a
      · simp only [h, h', if_true, if_false]
      · simp only [h, h', if_false, ih]
theorem cb_zero : ∀ a b, Lib.compareBytes a b = 0 → a = b
  | [], [], _ => rfl
  | [], _ :: _, h => by simp [Lib.compareBytes] at h
  | _ :: _, [], h => by simp [Lib.compareBytes] at h
  | a :: s, b :: t, h => by
    unfold Lib.compareBytes at h
    have h1 := @UInt8.lt_iff_toNat_lt a b
    have h2 := @UInt8.lt_iff_toNat_lt b a
    by_cases k : a < b
    · rw [if_pos k] at h; omega
    · by_cases k' : b < a
      · rw [if_neg k, if_pos k'] at h; omega
      · rw [if_neg k, if_neg k'] at h
        have : a = b := UInt8.toNat_inj.1 (by rw [h1] at k; rw [h2] at k'; omega)
        rw [this, cb_zero s t h]
theorem cb_trans : ∀ a b c, Lib.compareBytes a b < 0 → Lib.compareBytes b c < 0 → Lib.compareBytes a c < 0
  | [], [], _, h, _ => by simp [Lib.compareBytes] at h
  | [], _ :: _, [], _, h => by simp [Lib.compareBytes] at h
  | [], _ :: _, _ :: _, _, _ => by simp [Lib.compareBytes]
  | _ :: _, [], _, h, _ => by simp [Lib.compareBytes] at h
  | _ :: _, _ :: _, [], _, h => by simp [Lib.compareBytes] at h
  | a :: s, b :: t, c :: u, h, k => by
    unfold Lib.compareBytes at h k ⊢
    have h1 := @UInt8.lt_iff_toNat_lt a b
    have h2 := @UInt8.lt_iff_toNat_lt b a
    have h3 := @UInt8.lt_iff_toNat_lt b c
    have h4 := @UInt8.lt_iff_toNat_lt c b
    have h5 := @UInt8.lt_iff_toNat_lt a c
    have h6 := @UInt8.lt_iff_toNat_lt c a
    simp only [h1, h2] at h
    simp only [h3, h4] at k
    simp only [h5, h6]
    clear h1 h2 h3 h4 h5 h6
    have ih := cb_trans s t u
    by_cases e1 : a.toNat < b.toNat
    · by_cases e2 : b.toNat < c.toNat
      · rw [if_pos (by omega)]; omega
      · by_cases e3 : c.toNat < b.toNat
        · rw [if_neg e2, if_pos e3] at k; omega
        · rw [if_pos (by omega)]; omega
    · by_cases e4 : b.toNat < a.toNat
      · rw [if_neg e1, if_pos e4] at h; omega
      · rw [if_neg e1, if_neg e4] at h
        by_cases e2 : b.toNat < c.toNat
        · rw [if_pos (by omega)]; omega
        · by_cases e3 : c.toNat < b.toNat
          · rw [if_neg e2, if_pos e3] at k; omega
          · rw [if_neg e2, if_neg e3] at k
            rw [if_neg (by omega), if_neg (by omega)]
            exact ih h k
def c3 (e e' q : Bool) (x y : Int) : Int := if e != e' then (if e then -1 else 1) else if !q then x else if !e then y else 0
theorem cmpN_c3 (s p s' p' : List UInt8) : cmpN s p s' p' = c3 (expo s) (expo s') (s == s') (Lib.compareBytes s s') (Lib.compareBytes p p') := rfl
theorem c3_anti (e e' q : Bool) (x y : Int) : c3 e' e q (-x) (-y) = - c3 e e' q x y := by
  cases e <;> cases e' <;> cases q <;> simp [c3]
theorem c3_lt (e e' q : Bool) (x y : Int) : c3 e e' q x y < 0 ↔ (e = true ∧ e' = false) ∨ (e = e' ∧ q = false ∧ x < 0) ∨ (e = e' ∧ q = true ∧ e = false ∧ y < 0) := by
  cases e <;> cases e' <;> cases q <;> simp [c3]
theorem c3_zero (e e' q : Bool) (x y : Int) : c3 e e' q x y = 0 ↔ e = e' ∧ (q = false ∧ x = 0 ∨ q = true ∧ (e = true ∨ y = 0)) := by
  cases e <;> cases e' <;> cases q <;> simp [c3]
theorem cmpN_anti (s p s' p' : List UInt8) : cmpN s' p' s p = - cmpN s p s' p' := by
  have hc : (s' == s) = (s == s') := by rw [Bool.eq_iff_iff, beq_iff_eq, beq_iff_eq]; exact eq_comm
  rw [cmpN_c3, cmpN_c3, hc, cb_anti s s', cb_anti p p', c3_anti]
theorem cmpN_lt {s p s' p' : List UInt8} : cmpN s p s' p' < 0 ↔ (expo s = true ∧ expo s' = false) ∨ (expo s = expo s' ∧ Lib.compareBytes s s' < 0) ∨ (s = s' ∧ expo s = false ∧ Lib.compareBytes p p' < 0) := by
  rw [cmpN_c3, c3_lt]
  constructor
  · rintro (h | ⟨h1, _, h2⟩ | ⟨_, h2, h3, h4⟩)
    · exact .inl h
    · exact .inr (.inl ⟨h1, h2⟩)
    · exact .inr (.inr ⟨by rwa [beq_iff_eq] at h2, h3, h4⟩)
  · rintro (h | ⟨h1, h2⟩ | ⟨rfl, h3, h4⟩)
    · exact .inl h
    · refine .inr (.inl ⟨h1, ?_, h2⟩)
      rw [beq_eq_false_iff_ne]
      rintro rfl
      rw [compareBytes_self] at h2
      omega
    · exact .inr (.inr ⟨rfl, beq_self_eq_true _, h3, h4⟩)
theorem cmpN_zero {s p s' p' : List UInt8} (h : cmpN s p s' p' = 0) : idS s p = idS s' p' := by
  rw [cmpN_c3, c3_zero] at h
  obtain ⟨h1, ⟨h2, h3⟩ | ⟨h2, h3⟩⟩ := h
  · rw [cb_zero _ _ h3, beq_self_eq_true] at h2
    cases h2
  · rw [beq_iff_eq] at h2
    subst h2
    unfold idS
    rcases h3 with h3 | h3
    · rw [if_pos h3, if_pos h3]
    · rw [cb_zero _ _ h3]
theorem cmpN_trans {a p b q c r : List UInt8} (h : cmpN a p b q < 0) (k : cmpN b q c r < 0) : cmpN a p c r < 0 := by
  rw [cmpN_lt] at *
  rcases h with ⟨h1, h2⟩ | ⟨h1, h2⟩ | ⟨rfl, h1, h2⟩ <;> rcases k with ⟨k1, k2⟩ | ⟨k1, k2⟩ | ⟨rfl, k1, k2⟩
  · exact .inl ⟨h1, k2⟩
  · exact .inl ⟨h1, by rw [← k1, h2]⟩
  · exact .inl ⟨h1, h2⟩
  · exact .inl ⟨by rw [h1, k1], k2⟩
  · exact .inr (.inl ⟨h1.trans k1, cb_trans _ _ _ h2 k2⟩)
  · exact .inr (.inl ⟨h1, h2⟩)
  · exact .inl ⟨k1, k2⟩
  · exact .inr (.inl ⟨k1, k2⟩)
  · exact .inr (.inr ⟨rfl, h1, cb_trans _ _ _ h2 k2⟩)
end Go.Proofs.YtpiegpegjbmlkaaGreatDoor
namespace Go.Proofs.YtpiegpegjbmlkaaGreatDoor
open Go Go.Kd Go.Shelf Go.RowKit Go.Lib Go.Sort
set_option maxRecDepth 100000

section
variable {α : Type} [Inhabited α] {enc : α → Value} {w : World} {blk m : Nat} {d : Array α} {os : Array Obj}
theorem sw_heap {b : Nat} (hb : b < w.heap.size) (hne : b ≠ blk) : (sortWorld enc w blk 0 m d os).heap[b]? = w.heap[b]? := by
  show ((w.heap.modify blk (onCells (putCells enc 0 d))) ++ os)[b]? = _
  rw [Array.getElem?_append_left (by rw [Array.size_modify]; exact hb), Array.getElem?_modify, if_neg (Ne.symm hne)]
theorem sw_blk {cs : Array Value} {t : TypeId} {fz : Nat × Nat} (h : w.heap[blk]? = some (.cells cs t fz)) : (sortWorld enc w blk 0 m d os).heap[blk]? = some (.cells (putCells enc 0 d cs) t fz) := by
  have hb := (Array.getElem?_eq_some_iff.1 h).1
  show ((w.heap.modify blk (onCells (putCells enc 0 d))) ++ os)[blk]? = _
  rw [Array.getElem?_append_left (by rw [Array.size_modify]; exact hb), Array.getElem?_modify, if_pos rfl, h]
  rfl
theorem sw_size : w.heap.size ≤ (sortWorld enc w blk 0 m d os).heap.size := by
  show w.heap.size ≤ ((w.heap.modify blk (onCells (putCells enc 0 d))) ++ os).size
  simp
end

/-- what a row of functions is told by: blocks, packages, names, paths -/
structure FRow (w : World) (n : Nat) (fb : Nat → Nat) (pk : Nat → Value) (nm path : Nat → ByteArray) (vv : Nat → Value) : Prop where
  fn : ∀ i, i < n → FuncV w (fb i) (pk i) (nm i) (vv i)
  pkv : ∀ i, i < n → PkV w (nm i) (pk i) (path i)
  asc : ∀ i, i < n → Asc (nm i)
  dis : ∀ i j, i < n → j < n → idS (nm i).toList (path i).toList = idS (nm j).toList (path j).toList → i = j
theorem FRow.same {w : World} {n : Nat} {fb : Nat → Nat} {pk : Nat → Value} {nm path : Nat → ByteArray} {vv : Nat → Value} (h : FRow w n fb pk nm path vv) {i j : Nat} (hi : i < n) (hj : j < n) (he : fb i = fb j) : path i = path j := by
  suffices i = j by rw [this]
  have h1 := h.fn i hi
  have h2 := h.fn j hj
  unfold FuncV at h1 h2
  rw [he] at h1
  have h3 := h1.at_.symm.trans h2.at_
  simp only [Option.some.injEq, Obj.cells.injEq] at h3
  have h4 := congrArg Array.toList h3.1
  simp only [List.cons.injEq, Value.string.injEq] at h4
  obtain ⟨-, h5, h6, -⟩ := h4
  refine h.dis i j hi hj ?_
  unfold idS
  rw [h6]
  cases hx : expo (nm j).toList
  · obtain ⟨c, n1, k1, k2, _⟩ := (h.pkv i hi).at_ (by rw [h6]; exact hx)
    obtain ⟨c', n2, k3, k4, _⟩ := (h.pkv j hj).at_ hx
    rw [h5, k3] at k1
    simp at k1
    subst k1
    have k5 := k2.at_.symm.trans k4.at_
    simp at k5
    rw [k5.1]
  · rfl

/-- the world behind a sort: the row's block alone has turned -/
structure Srt (w w' : World) (ma : Option Addr) : Prop where
  os : w'.os = w.os
  tape : w'.tape = w.tape
  output : w'.output = w.output
  size : w.heap.size ≤ w'.heap.size
  oth : ∀ b, b < w.heap.size → (∀ a, ma = some a → b ≠ a.block) → w'.heap[b]? = w.heap[b]?
theorem Srt.rfl' (w : World) (ma : Option Addr) : Srt w w ma := ⟨rfl, rfl, rfl, Nat.le_refl _, fun _ _ _ => rfl⟩

theorem extract_all {α : Type} {d : Array α} {n : Nat} (h : d.size = n) : d.extract 0 n = d := by subst h; exact Array.extract_size
theorem toList_fin {n : Nat} : (Array.ofFn (fun i : Fin n => i)).toList.map Fin.val = List.range n := by
  apply List.ext_getElem?
  intro i
  by_cases hi : i < n
  · simp [hi]
  · simp [hi]

set_option maxHeartbeats 1000000 in
theorem c_sortMethods (ma : Option Addr) (n mc : Nat) (fb : Nat → Nat) (pk : Nat → Value) (nm path : Nat → ByteArray) (vv : Nat → Value) (w : World) (hp : Prp w) (hr : RowP w 132 ma n fb) (hf : FRow w n fb pk nm path vv) (hn : n ≤ 1073741824)
    (hg : ∀ a, ma = some a → a.block ≠ gP) :
    Calls Tryz.prog 152 #[.slice ma n mc] w (Ret fun _ w' => Srt w w' ma ∧ ∃ σ : List Nat, σ.Perm (List.range n) ∧ RowP w' 132 ma n (fun i => fb (σ.getD i 0)) ∧
      ∀ i j, i < j → j < n → cmpN (nm (σ.getD i 0)).toList (path (σ.getD i 0)).toList (nm (σ.getD j 0)).toList (path (σ.getD j 0)).toList < 0) := by
  refine W.enter (args := [.slice ma n mc]) Tryz.func152 rfl Tryz.ntmps152 rfl rfl ?_
  refine zst ?_
  have key : Calls Tryz.prog 173 #[.slice ma n mc, .func (.func 174) #[] #[]] w (Ret fun _ w' => Srt w w' ma ∧ ∃ σ : List Nat, σ.Perm (List.range n) ∧ RowP w' 132 ma n (fun i => fb (σ.getD i 0)) ∧
      ∀ i j, i < j → j < n → cmpN (nm (σ.getD i 0)).toList (path (σ.getD i 0)).toList (nm (σ.getD j 0)).toList (path (σ.getD j 0)).toList < 0) := by
    cases n with
    | zero =>
      refine (AnyF.slices_SortFunc_none (P := Tryz.prog) (ρ := sortM_ren) { sortM with } ma mc (.func (.func 174) #[] #[]) w).mono ?_
      rintro e w' ⟨rfl, rfl⟩
      exact ⟨_, rfl, Srt.rfl' _ _, [], List.Perm.refl _, fun i hi => by omega, fun i j _ hj => by omega⟩
    | succ n0 =>
      obtain ⟨blk, cs, hma, hblk, _⟩ := hr 0 (by omega)
      subst hma
      have hcs : ∀ i, i < n0 + 1 → cs[i]? = some (pt (fb i)) := fun i hi => by
        obtain ⟨b, cs', h1, h2, h3⟩ := hr i hi
        cases h1
        have := hblk.at_.symm.trans h2.at_
        simp at this
        rw [this]; exact h3
      let enc : Fin (n0 + 1) → Value := fun i => pt (fb i)
      let cf : Fin (n0 + 1) → Fin (n0 + 1) → Int := fun x y => cmpN (nm x).toList (path x).toList (nm y).toList (path y).toList
      let d : Array (Fin (n0 + 1)) := Array.ofFn fun i => i
      have hds : d.size = n0 + 1 := Array.size_ofFn
      have hlt : ∀ x y, ltOf cf x y = true ↔ cf x y < 0 := fun x y => by unfold ltOf; simp
      have hlf : ∀ x y, ltOf cf x y = false ↔ ¬ cf x y < 0 := fun x y => by unfold ltOf; simp
      have hanti : ∀ x y, cf y x = - cf x y := fun x y => cmpN_anti _ _ _ _
      have hzero : ∀ x y, cf x y = 0 → x = y := fun x y h => Fin.ext (hf.dis x y x.isLt y.isLt (cmpN_zero h))
      have hself : ∀ x, cf x x = 0 := fun x => cmpN_self _ _
      have htr : ∀ x y z, cf x y < 0 → cf y z < 0 → cf x z < 0 := fun x y z h k => cmpN_trans h k
      have hO : SWO (ltOf cf) := ⟨fun x => by rw [hlf, hself]; omega, fun x y z h k => by
        rw [hlt] at *
        exact htr x y z h k, fun x y z h k => by
        rw [hlf] at *
        intro hxz
        by_cases e : cf x y = 0
        · rw [hzero x y e] at hxz; exact k hxz
        · have h1 : cf y x < 0 := by rw [hanti]; omega
          exact k (htr y x z h1 hxz)⟩
      have hft : ∀ x : Fin (n0 + 1), fb x ≠ blk := fun x e => by
        have h1 := hf.fn x x.isLt
        unfold FuncV at h1
        rw [e] at h1
        have := hblk.at_.symm.trans h1.at_
        simp at this
      have hcmp : CmpLays1 Tryz.prog 174 #[] enc cf blk 0 d.size w := fun m os dk hs x y => by
        have hsame : ∀ b, b < w.heap.size → b ≠ blk → (sortWorld enc w blk 0 m dk os).heap[b]? = w.heap[b]? := fun b h1 h2 => sw_heap h1 h2
        have hfv : ∀ x : Fin (n0 + 1), FuncV (sortWorld enc w blk 0 m dk os) (fb x) (pk x) (nm x) (vv x) := fun x => by
          have h1 := hf.fn x x.isLt
          unfold FuncV at h1 ⊢
          exact ⟨(hsame _ h1.lt (hft x)).trans h1.at_⟩
        have hpv : ∀ x : Fin (n0 + 1), PkV (sortWorld enc w blk 0 m dk os) (nm x) (pk x) (path x) := fun x => ⟨(hf.pkv x x.isLt).ptr, fun he => by
          obtain ⟨c, n1, h1, h2, h3⟩ := (hf.pkv x x.isLt).at_ he
          refine ⟨c, n1, h1, ⟨(hsame _ h2.lt fun e => ?_).trans h2.at_⟩, h3⟩
          subst e
          have := hblk.at_.symm.trans h2.at_
          simp at this⟩
        refine (c_compareFunc (fb x) (fb y) (pk x) (pk y) (nm x) (nm y) (path x) (path y) (vv x) (vv y) (sortWorld enc w blk 0 m dk os) (hp.same (hsame _ hp.lt (Ne.symm (hg _ rfl)))) (hfv x).obj (hfv y).obj (hpv x) (hpv y) (hf.asc x x.isLt) (hf.asc y y.isLt) (fun e => hf.same x.isLt y.isLt e)).mono ?_
        rintro e w' ⟨v, rfl, rfl, q, rfl⟩
        exact ⟨rfl, q, #[], by rw [grow_empty]⟩
      have hH : Holds enc w blk 0 d := fun j hj => by
        have hj' : j < n0 + 1 := by rw [← hds]; exact hj
        have hdj : d[j]! = ⟨j, hj'⟩ := by
          rw [getElem!_pos d j hj]
          exact Array.getElem_ofFn ..
        refine ⟨?_, ?_⟩
        · rw [hdj, Nat.zero_add]
          exact cell_of hblk (hcs j hj')
        · unfold World.frozen?
          rw [hblk.at_]
          simp
      have hres := Any.slices_SortFunc (P := Tryz.prog) (ρ := sortM_ren) sortM enc (fun _ => rfl) cf hO 174 #[] blk 0 mc d w
        (enters_of Tryz.func174 (by kernel_rfl) rfl) hcmp hH hblk.lt (by rw [hds]; omega)
      rw [hds] at hres
      refine hres.mono ?_
      rintro e w' ⟨rfl, d', q, os, ⟨hp1, hp2, hp3⟩, hs, rfl⟩
      have hd's : d'.size = n0 + 1 := hp1.trans hds
      have hperm : d'.toList.Perm d.toList := by
        rw [extract_all hd's, extract_all hds] at hp3
        exact hp3
      have hnd : (d'.toList.map Fin.val).Nodup := (hperm.map Fin.val).nodup_iff.2 (by rw [show d.toList.map Fin.val = List.range (n0 + 1) from toList_fin]; exact List.nodup_range)
      have hgd : ∀ i, (hi : i < n0 + 1) → (d'.toList.map Fin.val).getD i 0 = (d'[i]!).val := fun i hi => by
        rw [getElem!_pos d' i (by omega)]
        simp [List.getD, hd's, hi]
      refine ⟨_, rfl, ⟨rfl, rfl, rfl, sw_size, fun b hb hne => sw_heap hb (hne _ rfl)⟩, d'.toList.map Fin.val, ?_, fun i hi => ⟨blk, _, rfl, ⟨sw_blk hblk.at_⟩, ?_⟩, fun i j hij hj => ?_⟩
      · rw [← toList_fin]
        exact hperm.map _
      · unfold putCells
        rw [Array.getElem?_mapIdx, hcs i hi, Option.map_some, if_pos ⟨Nat.zero_le _, by omega⟩]
        show some (enc d'[i]!) = some (pt (fb _))
        rw [hgd i hi]
      · rw [hgd i (by omega), hgd j hj]
        have h1 := hs i j (Nat.zero_le _) hij hj
        rw [hlf] at h1
        have h2 := hanti d'[i]! d'[j]!
        show cf d'[i]! d'[j]! < 0
        by_cases h0 : cf d'[i]! d'[j]! = 0
        · exfalso
          have h3 := hzero _ _ h0
          have hi' : i < (d'.toList.map Fin.val).length := by simp [hd's]; omega
          have hj' : j < (d'.toList.map Fin.val).length := by simp [hd's]; omega
          have h4 := (List.getElem_inj (h₀ := hi') (h₁ := hj') hnd).1 (by
            have a1 := hgd i (by omega)
            have a2 := hgd j hj
            rw [List.getD_eq_getElem?_getD, List.getElem?_eq_getElem hi', Option.getD_some] at a1
            rw [List.getD_eq_getElem?_getD, List.getElem?_eq_getElem hj', Option.getD_some] at a2
            rw [a1, a2, h3])
          omega
        · omega
  refine WU.stp rfl rfl rfl (stp_call rfl key) ?_
  rintro v w' h
  refine zst ?_
  exact fin0 (.inr rfl) rfl h
end Go.Proofs.YtpiegpegjbmlkaaGreatDoor
namespace Go.Proofs.YtpiegpegjbmlkaaGreatDoor
open Go Go.Kd
set_option maxRecDepth 100000

abbrev tTM : Nat := 261
abbrev tTP : Nat := 259
abbrev tTS : Nat := 228
abbrev tSP : Nat := 134
/-- the term list of all types -/
def AllT (w : World) (v : Value) : Prop := ∃ a c tb, v = .slice a 1 c ∧ RowP w tTP a 1 (fun _ => tb) ∧ Has w tb (.cells #[.bool false, .nilIface] tTM)
instance : Imm tTP := imm_of rfl
theorem AllT.sta {K : Cfg} {l : Nat} {w w' : World} (x : Sta K l w w') {v : Value} (h : AllT w v) : AllT w' v := by
  obtain ⟨a, c, tb, h1, h2, h3⟩ := h
  exact ⟨a, c, tb, h1, h2.sta x, Has.sta x h3⟩
theorem AllT.ext {w w' : World} (x : Ext w w') {v : Value} (h : AllT w v) : AllT w' v := by
  obtain ⟨a, c, tb, h1, h2, h3⟩ := h
  exact ⟨a, c, tb, h1, h2.ext x, h3.ext' x⟩
theorem c_allTermlist (w : World) : Calls Tryz.prog 148 #[] w (Ret fun r w' => AllT w' r ∧ Ext w w') := by
  refine W.enter (args := []) Tryz.func148 rfl Tryz.ntmps148 rfl rfl ?_
  refine zst ?_
  refine WU.stp rfl rfl rfl stp_alloc ?_
  rintro _ w1 ⟨b1, rfl, n1⟩
  refine zst ?_
  refine WU.stp rfl rfl rfl (stp_buildSlice rfl rfl rfl rfl rfl) ?_
  rintro _ w2 ⟨b2, rfl, n2⟩
  refine zst ?_
  refine fin1 (.inl rfl) rfl rfl ⟨⟨_, _, b1, rfl, fun i hi => ⟨b2, _, rfl, n2.has, ?_⟩, n1.has.ext' n2.ext⟩, n1.ext.trans n2.ext⟩
  obtain rfl : i = 0 := by omega
  rfl
theorem c_topTypeSet (w : World) : Calls Tryz.prog 147 #[] w (Ret fun r w' => ∃ b v, r = pt b ∧ w.heap.size ≤ b ∧ Has w' b (.cells #[.bool false, .slice none 0 0, v, .bool false] tTS) ∧ AllT w' v ∧ Ext w w') := by
  refine W.enter (args := []) Tryz.func147 rfl Tryz.ntmps147 rfl rfl ?_
  refine zst ?_
  refine WU.stp rfl rfl rfl (stp_call rfl (c_allTermlist w)) ?_
  rintro v w1 ⟨⟨a, c, tb, rfl, h2, h3⟩, x1⟩
  refine zst ?_
  refine WU.stp rfl rfl rfl (by first | exact stp_box rfl rfl | exact stp_box1 rfl rfl) ?_
  rintro _ w2 ⟨b2, rfl, n2⟩
  refine zst ?_
  have hge : w.heap.size ≤ b2 := by have := n2.num; have := x1.size; omega
  exact fin1 (.inl rfl) rfl rfl ⟨b2, _, rfl, hge, n2.has, ⟨a, c, tb, rfl, h2.ext n2.ext, h3.ext' n2.ext⟩, x1.trans n2.ext⟩
theorem c_newInterface (w : World) : Calls Tryz.prog 154 #[.pointer none] w (Ret fun r w' => ∃ b, r = pt b ∧ New w b (.cells #[.pointer none, .slice none 0 0, .slice none 0 0, .pointer none, .bool false, .bool false, .pointer none] tIF) w') := by
  refine W.enter (args := [.pointer none]) Tryz.func154 rfl Tryz.ntmps154 rfl rfl ?_
  refine zst ?_
  refine WU.stp rfl rfl rfl (by first | exact stp_box rfl rfl | exact stp_box1 rfl rfl) ?_
  rintro _ w1 ⟨b1, rfl, n1⟩
  refine zst ?_
  exact fin1 (.inl rfl) rfl rfl ⟨b1, rfl, n1⟩

def SigP (w : World) (b : Nat) (ps rs : Value) (vr : Bool) : Prop := ∃ rv : Option Addr, Has w b (.cells #[.pointer rv, .pointer none, ps, rs, .bool vr] tSG)
/-- only these two blocks have turned -/
structure Oth (w w' : World) (b : Nat) (ma : Option Addr) : Prop where
  os : w'.os = w.os
  tape : w'.tape = w.tape
  output : w'.output = w.output
  size : w.heap.size ≤ w'.heap.size
  oth : ∀ d, d < w.heap.size → d ≠ b → (∀ a, ma = some a → d ≠ a.block) → w'.heap[d]? = w.heap[d]?
theorem FRow.sta {K : Cfg} {l : Nat} {w w' : World} (x : Sta K l w w') {n : Nat} {fb : Nat → Nat} {pk : Nat → Value} {nm path : Nat → ByteArray} {vv : Nat → Value} (h : FRow w n fb pk nm path vv) : FRow w' n fb pk nm path vv :=
  ⟨fun i hi => (h.fn i hi).sta x, fun i hi => (h.pkv i hi).sta x, h.asc, h.dis⟩
theorem mok_recv {K : Cfg} {b : Nat} {rv rv' ps rs : Value} {vr : Bool} : MOk K 3 b tSG #[rv, .pointer none, ps, rs, .bool vr] #[rv', .pointer none, ps, rs, .bool vr] := ⟨rfl, fun i hi => by
  have h0 : i ≠ 0 := fun e => by
    subst e
    unfold mc at hi
    simp only [show ¬ tSG = tTY from by decide, show ¬ tSG = tIF from by decide, if_false, if_true] at hi
    simp at hi
  match i, h0 with
  | i + 1, _ => rfl⟩

set_option maxHeartbeats 2000000 in
theorem c_NewInterfaceType (K : Cfg) (ma ea : Option Addr) (mn mc en ec : Nat) (fb sb : Nat → Nat) (pk : Nat → Value) (nm path : Nat → ByteArray) (ps rs : Nat → Value) (vr : Nat → Bool) (w : World) (hp : Prp w) (hg : gP < K.N) (hma : ∀ a, ma = some a → a.block ≠ gP ∧ a.block < w.heap.size)
    (hr : RowP w 132 ma mn fb) (hf : FRow w mn fb pk nm path fun i => .iface tSP (pt (sb i))) (hs : ∀ i, i < mn → SigP w (sb i) (ps i) (rs i) (vr i)) (hsN : ∀ i, i < mn → K.N ≤ sb i) (hn : mn ≤ 1073741824) :
    Calls Tryz.prog 120 #[.slice ma mn mc, .slice ea en ec] w (Ret fun r w' => ∃ b, r = pt b ∧ w.heap.size ≤ b ∧ b < w'.heap.size ∧
      ((mn = 0 ∧ en = 0 ∧ (∃ tb v, Has w' b (.cells (ifc none 0 0 none 0 0 (pt tb)) tIF) ∧ Has w' tb (.cells #[.bool false, .slice none 0 0, v, .bool false] tTS) ∧ AllT w' v) ∧ Ext w w') ∨
       (¬ (mn = 0 ∧ en = 0) ∧ Has w' b (.cells (ifc ma mn mc ea en ec (.pointer none)) tIF) ∧ ∃ (w1 : World) (σ : List Nat), Sta K 3 w w1 ∧ (∀ d, d < w.heap.size → (∀ i, i < mn → d ≠ sb i) → w1.heap[d]? = w.heap[d]?) ∧ Oth w1 w' b ma ∧ σ.Perm (List.range mn) ∧
        RowP w' 132 ma mn (fun i => fb (σ.getD i 0))))) := by
  refine W.enter (args := [.slice ma mn mc, .slice ea en ec]) Tryz.func120 rfl Tryz.ntmps120 rfl rfl ?_
  by_cases h0 : mn = 0 ∧ en = 0
  · obtain ⟨rfl, rfl⟩ := h0
    refine zst ?_
    rw [show ((((0 : Nat) : Int)) == 0) = true from rfl]
    refine zst ?_
    refine WU.stp rfl rfl rfl (stp_call rfl (c_topTypeSet w)) ?_
    rintro _ w1 ⟨tb, v, rfl, htb, h1, h2, x1⟩
    refine zst ?_
    refine WU.stp rfl rfl rfl (by first | exact stp_box rfl rfl | exact stp_box1 rfl rfl) ?_
    rintro _ w2 ⟨b2, rfl, n2⟩
    refine zst ?_
    refine fin1 (.inl rfl) rfl rfl ⟨b2, rfl, ?_, ?_, .inl ⟨rfl, rfl, ⟨tb, v, n2.has, h1.ext' n2.ext, h2.ext n2.ext⟩, x1.trans n2.ext⟩⟩
    · have := n2.num; have := x1.size; omega
    · exact n2.has.lt
  · (repeat ((fail_if_success guard_target =~ gW (.seq (.region 1 _ _) _)); (fail_if_success guard_target =~ gW (.seq (.seq (.region 1 _ _) _) _)); refine zs1 ?_))
    refine W.cut [(16, .bool false), (0, .slice ma mn mc), (1, .slice ea en ec)] ?_ ?_
    · refine zst ?_
      cases h1 : ((mn : Int) == 0)
      · refine zst ?_
        exact ⟨rfl, rfl, rfl, rfl, rfl, trivial⟩
      · refine zst ?_
        rw [show ((en : Int) == 0) = false from by
          rw [beq_iff_eq] at h1
          rw [beq_eq_false_iff_ne]
          intro h2
          exact h0 ⟨by omega, by omega⟩]
        refine zst ?_
        exact ⟨rfl, rfl, rfl, rfl, rfl, trivial⟩
    refine zst ?_
    refine WU.stp rfl rfl rfl (stp_call rfl (c_newInterface w)) ?_
    rintro _ w1 ⟨b, rfl, n1⟩
    refine zst ?_
    have hbn := n1.num
    have hsz1 := n1.size
    refine W.loop (σ := Nat) (fun k => [(23, .int .i64 k), (22, .int .i64 mn), (21, .slice ma mn mc), (5, pt b), (1, .slice ea en ec), (0, .slice ma mn mc)])
      (fun k D' wk => D' = [] ∧ k ≤ mn ∧ Sta K 3 w wk ∧ w.heap.size < wk.heap.size ∧ Has wk b (.cells #[.pointer none, .slice none 0 0, .slice none 0 0, .pointer none, .bool false, .bool false, .pointer none] tIF) ∧
        (∀ d, d < w.heap.size → (∀ i, i < mn → d ≠ sb i) → wk.heap[d]? = w.heap[d]?) ∧ ∀ i, i < mn → SigP wk (sb i) (ps i) (rs i) (vr i))
      (fun k => mn - k) 0 ⟨rfl, Nat.zero_le _, .of_ext n1.ext, by omega, n1.has, fun d hd _ => n1.ext.below.block d hd, fun i hi => (hs i hi).imp fun _ h => h.ext' n1.ext⟩ (by exact sub_of ⟨rfl, rfl, rfl, rfl, rfl, rfl, trivial⟩) ?_
    rintro k D' wk ⟨rfl, hk, xk, hszk, hbk, hdk, hsk⟩
    refine zst ?_
    by_cases hlt : k < mn
    · rw [show decide ((k : Int) < (mn : Int)) = true by simpa using hlt]
      obtain ⟨rb, rfl, hrc⟩ := (hr.sta xk).cell hlt
      have hfk : Has wk (fb k) (.cells #[.int .i64 0, pk k, .string (nm k), .iface tSP (pt (sb k)), .bool false, .bool false] 204) := (hf.fn k hlt).sta xk
      obtain ⟨pa, hpa⟩ := (hf.pkv k hlt).ptr
      rw [hpa] at hfk
      obtain ⟨rv, hsg⟩ := hsk k hlt
      refine zst ?_
      refine WU.yld rfl rfl rfl (yld_load_c rfl hrc) ?_
      refine zst ?_
      have fin : ∀ w2, Sta K 3 wk w2 → wk.heap.size ≤ w2.heap.size → Has w2 b (.cells #[.pointer none, .slice none 0 0, .slice none 0 0, .pointer none, .bool false, .bool false, .pointer none] tIF) →
          (∀ d, d < w.heap.size → (∀ i, i < mn → d ≠ sb i) → w2.heap[d]? = wk.heap[d]?) → (∀ i, i < mn → SigP w2 (sb i) (ps i) (rs i) (vr i)) →
          (k + 1 ≤ mn ∧ Sta K 3 w w2 ∧ w.heap.size < w2.heap.size ∧ Has w2 b (.cells #[.pointer none, .slice none 0 0, .slice none 0 0, .pointer none, .bool false, .bool false, .pointer none] tIF) ∧
        (∀ d, d < w.heap.size → (∀ i, i < mn → d ≠ sb i) → w2.heap[d]? = w.heap[d]?) ∧ ∀ i, i < mn → SigP w2 (sb i) (ps i) (rs i) (vr i)) := fun w2 x2 hs2 hb2 hd2 hg2 =>
        ⟨by omega, xk.trans x2, by omega, hb2, fun d hd hi => (hd2 d hd hi).trans (hdk d hd hi), hg2⟩
      cases rv with
      | none =>
        refine zst ?_
        refine W.regD [(0, .q), (1, .q), (2, .q), (3, .q), (4, .q), (5, .q), (6, .q), (7, .q), (8, .q), (9, .q), (10, .q), (11, .q), (12, .q), (13, .l), (14, .q), (15, .q), (16, .z)] (by kernel_rfl) (by kernel_rfl) rfl ?_
        intro w2 x2 _
        have hfk2 := hfk.ext' x2
        have hsg2 := hsg.ext' x2
        refine zsd ?_
        refine WD.stp rfl rfl rfl rfl (stp_call rfl (c_newVar 3 0 pa eB 108 (pt b) w2)) ?_
        rintro _ w3 ⟨vb, rfl, n3⟩
        refine ⟨by first | assumption | exact Ext.rfl' _ | infer_instance, ?_⟩
        have hsg3 := hsg2.ext' n3.ext
        refine zsd ?_
        refine WD.last0 rfl rfl rfl (stp_store_cell rfl rfl rfl rfl) ?_
        rintro _ w4 u4
        refine zsd ?_
        refine zst ?_
        have x3 : Ext wk w3 := x2.trans n3.ext
        obtain ⟨g1, g2, g3, g4, g5, g6⟩ := fin w4 ((Sta.of_ext x3).trans (.of_upd hsg3 u4 (hsN k hlt) mok_recv)) (by rw [u4.size]; exact x3.size) ⟨(u4.oth b (fun e => by
            subst e
            have := (hbk.ext' x3).at_.symm.trans hsg3.at_
            simp at this)).trans (hbk.ext' x3).at_⟩
          (fun d hd hi => (u4.oth d (hi k hlt)).trans (x3.below.block d (by omega)))
          (fun i hi => by
            by_cases he : sb i = sb k
            · obtain ⟨rv, h5⟩ := hsk i hi
              have h6 := h5.at_
              rw [he] at h6
              have h7 := hsg.at_.symm.trans h6
              simp at h7
              obtain ⟨-, h7, h8, h9⟩ := h7
              rw [he, ← h7, ← h8, ← h9]
              exact ⟨_, u4.has⟩
            · obtain ⟨rv, h5⟩ := hsk i hi
              exact ⟨rv, ⟨(u4.oth _ he).trans (h5.ext' x3).at_⟩⟩)
        exact ⟨k + 1, by omega, ⟨rfl, g1, g2, g3, g4, g5, g6⟩, sub_of ⟨rfl, rfl, rfl, rfl, rfl, rfl, trivial⟩⟩
      | some rv =>
        refine zst ?_
        obtain ⟨g1, g2, g3, g4, g5, g6⟩ := fin wk (.rfl' ..) (Nat.le_refl _) hbk (fun _ _ _ => rfl) hsk
        exact ⟨k + 1, by omega, ⟨rfl, g1, g2, g3, g4, g5, g6⟩, sub_of ⟨rfl, rfl, rfl, rfl, rfl, rfl, trivial⟩⟩
    · rw [show decide ((k : Int) < (mn : Int)) = false by simpa using hlt]
      refine zst ?_
      refine WU.stp rfl rfl rfl (stp_call rfl (c_sortMethods ma mn mc fb pk nm path _ wk (hp.sta xk hg) (hr.sta xk) (hf.sta xk) hn (fun a ha => (hma a ha).1))) ?_
      rintro _ w2 ⟨s2, σ, hσ, hrow, _⟩
      have hb2 : Has w2 b (.cells #[.pointer none, .slice none 0 0, .slice none 0 0, .pointer none, .bool false, .bool false, .pointer none] tIF) := ⟨(s2.oth b hbk.lt fun a ha => by have := (hma a ha).2; omega).trans hbk.at_⟩
      refine zst ?_
      refine WU.stp0 rfl rfl (stp_store_cell rfl rfl rfl rfl) ?_
      rintro _ w3 u3
      have hb3 := u3.has
      refine zst ?_
      refine WU.stp0 rfl rfl (stp_store_cell rfl rfl rfl rfl) ?_
      rintro _ w4 u4
      have hb4 := u4.has
      refine zst ?_
      refine WU.stp0 rfl rfl (stp_store_cell rfl rfl rfl rfl) ?_
      rintro _ w5 u5
      have hb5 := u5.has
      refine zst ?_
      refine fin1 (.inl rfl) rfl rfl ⟨b, rfl, by omega, hb5.lt, .inr ⟨h0, hb5, wk, σ, xk, hdk, ⟨?_, ?_, ?_, ?_, fun d hd hne hma' => ?_⟩, hσ, fun i hi => ?_⟩⟩
      · rw [u5.os, u4.os, u3.os, s2.os]
      · rw [u5.tape, u4.tape, u3.tape, s2.tape]
      · rw [u5.output, u4.output, u3.output, s2.output]
      · rw [u5.size, u4.size, u3.size]; exact s2.size
      · rw [u5.oth d hne, u4.oth d hne, u3.oth d hne]; exact s2.oth d hd hma'
      · obtain ⟨c, cs, k1, k2, k3⟩ := hrow i hi
        have hcb : c ≠ b := by rw [k1] at hma; have := (hma _ rfl).2; simp at this; omega
        exact ⟨c, cs, k1, ⟨by rw [u5.oth c hcb, u4.oth c hcb, u3.oth c hcb]; exact k2.at_⟩, k3⟩
end Go.Proofs.YtpiegpegjbmlkaaGreatDoor
namespace Go.Kd
def Fz (ro : Option Nat) : Fence := { Fence.wide with round := ro }
theorem callsFz {ro : Option Nat} {n : Nat} {P : Program} {f : FuncId} {args : Array Value} {w : World} {R : Ending → World → Prop} (h : Calls P f args w R) : CallsIn (Fz ro) n P f args w R :=
  ((callsIn_wide (n := n)).2 h : CallsIn Fence.wide n P f args w R)
theorem callsOfFz {n : Nat} {P : Program} {f : FuncId} {args : Array Value} {w : World} {R : Ending → World → Prop} (h : CallsIn (Fz none) n P f args w R) : Calls P f args w R :=
  (callsIn_wide (n := n)).1 (h : CallsIn Fence.wide n P f args w R)
def nd : Op → Bool
  | .defer _ => false
  | _ => true
theorem nd_ne {o : Op} (h : nd o = true) : ∀ c, o ≠ .defer c := fun c e => by rw [e] at h; cases h

structure WI (P : Program) (ro : Option Nat) (n : Nat) (c : Code) (Q : Post) (D : List Deferred) (e : Env) (w : World) : Prop where
  out : ∀ a, Fr n D e a → c.wpIn (Fz ro) 0 P (post n Q) a w
structure WUI (P : Program) (ro : Option Nat) (n : Nat) (ops : List Oper) (Q : Post) (l : List Oper) (D : List Deferred) (e : Env) (w : World) : Prop where
  out : ∀ a, Fr n D e a → wpListIn (Fz ro) 0 P ops.toArray (post n Q) l a w
section
variable {P : Program} {ro : Option Nat} {n : Nat} {Q Q' : Post} {D : List Deferred} {e : Env} {w : World} {ops : List Oper}
abbrev gUI (l : List Oper) : Prop := WUI P ro n ops Q l D e w
abbrev gWI (c : Code) : Prop := WI P ro n c Q D e w
theorem WI.mono {c : Code} (h : WI P ro n c Q D e w) (hq : ∀ x D e w, Q x D e w → Q' x D e w) : WI P ro n c Q' D e w := ⟨fun a ha =>
  wpIn_mono (h.out a ha) fun x a' w' hx => by
    cases x <;> first
      | exact hx
      | (obtain ⟨D', e', h1, h2⟩ := hx; exact ⟨D', e', h1, hq _ _ _ _ h2⟩)⟩
theorem WI.abs {c : Code} {Pw : World → Prop} (h : Pw w) (k : ∀ w, Pw w → WI P ro n c Q D e w) : WI P ro n c Q D e w := k w h
theorem WI.seq {x y : Code} (h : WI P ro n x (thn (WI P ro n y Q) Q) D e w) : WI P ro n (.seq x y) Q D e w := ⟨fun a ha =>
  wpIn_seq (wpIn_mono (h.out a ha) fun x a' w' hx => by
    cases x <;> first
      | exact hx
      | (obtain ⟨D', e', h1, h2⟩ := hx; exact h2.out a' h1))⟩
theorem WI.skip (h : Q .normal D e w) : WI P ro n .skip Q D e w := ⟨fun _ ha => wpIn_skip ⟨D, e, ha, h⟩⟩
theorem WI.exit {id : Nat} (h : Q (.exit id) D e w) : WI P ro n (.exit id) Q D e w := ⟨fun _ ha => wpIn_exit ⟨D, e, ha, h⟩⟩
theorem WI.ret (h : Q .ret D e w) : WI P ro n .ret Q D e w := ⟨fun _ ha => wpIn_ret ⟨D, e, ha, h⟩⟩
theorem WI.block {id : Nat} {c : Code} (h : WI P ro n c (inb id Q) D e w) : WI P ro n (.block id c) Q D e w := ⟨fun a ha =>
  wpIn_block (wpIn_mono (h.out a ha) fun x a' w' hx => by
    cases x with
    | exit id' =>
      obtain ⟨D', e', h1, h2⟩ := hx
      simp only [inb] at h2
      by_cases hid : id' = id
      · subst hid
        simp only [Nat.beq_refl] at h2
        simp only [Exit.inBlock, if_true]
        exact ⟨D', e', h1, h2⟩
      · have : Nat.beq id' id = false := by
          cases hb : Nat.beq id' id
          · rfl
          · exact absurd (Nat.eq_of_beq_eq_true hb) hid
        simp only [this] at h2
        simp only [Exit.inBlock, hid, if_false]
        exact ⟨D', e', h1, h2⟩
    | _ => exact hx)⟩
theorem WI.cond_t {c : Operand} {x y : Code} (hc : ev e c = some (.bool true)) (h : WI P ro n x Q D e w) : WI P ro n (.cond c x y) Q D e w := ⟨fun a ha =>
  wpIn_cond_true (ha.eval hc) (h.out a ha)⟩
theorem WI.cond_f {c : Operand} {x y : Code} (hc : ev e c = some (.bool false)) (h : WI P ro n y Q D e w) : WI P ro n (.cond c x y) Q D e w := ⟨fun a ha =>
  wpIn_cond_false (ha.eval hc) (h.out a ha)⟩
theorem WI.reg {id : Nat} {l : List Oper} (h : WUI P ro n l Q l D e w) : WI P ro n (.region id l.toArray false) Q D e w := ⟨fun a ha => wpIn_region_lit (h.out a ha)⟩
theorem WUI.nil (h : Q .normal D e w) : WUI P ro n ops Q [] D e w := ⟨fun _ ha => ⟨D, e, ha, h⟩⟩
theorem WUI.nilk {K : List Deferred → Env → World → Prop} (h : K D e w) : WUI P ro n ops (thn K Q) [] D e w := ⟨fun _ ha => ⟨D, e, ha, h⟩⟩
theorem uponIn_of_stp {o : Oper} {a : Act} {R : Value → World → Prop} (ha : Fr n D e a) (hnd : nd o.op = true) (h : Stp P e o w R) {K : Act → World → Prop} {Q' : Exit → Act → World → Prop}
    (hk : ∀ v w', R v w' → K (a.put o.dst v) w') : o.wpIn (Fz ro) 0 P a w K Q' := by
  have h1 := h.out a.eval ha.ag
  refine ⟨fun _ _ => trivial, ?_⟩
  rw [Oper.semAt_eq _ _ _ (nd_ne hnd)]
  generalize (execOp a.eval o).run P w = r at *
  cases r with
  | ok nx w' =>
    cases nx <;> simp only at h1 <;> simp only [Oper.uponIn]
    case value v => exact hk _ _ h1
    case skip => exact hk _ _ h1
    case enter f args =>
      refine ⟨fun h => (by cases h), callsFz (h1.mono fun x w'' hx => ?_)⟩
      obtain ⟨v, rfl, hr⟩ := hx
      exact hk _ _ hr
  | halt x w' => exact h1.elim
theorem WUI.stp {o : Oper} {rest : List Oper} {d : Nat} {R : Value → World → Prop} (hd : o.dst = some d) (hl : Nat.blt d n = true) (hg : wn ops e o.guard = some true) (hnd : nd o.op = true) (h : Stp P e o w R)
    (hk : ∀ v w', R v w' → WUI P ro n ops Q rest D ((d, v) :: e) w') : WUI P ro n ops Q (o :: rest) D e w := ⟨fun a ha => by
  unfold wpListIn
  rw [wn_spec hg ha, if_pos rfl]
  exact uponIn_of_stp ha hnd h fun v w' hr => (hk v w' hr).out _ (by rw [hd]; exact ha.put (by simpa [Nat.blt_eq] using hl) v)⟩
theorem WUI.stp0 {o : Oper} {rest : List Oper} {R : Value → World → Prop} (hd : o.dst = none) (hg : wn ops e o.guard = some true) (hnd : nd o.op = true) (h : Stp P e o w R)
    (hk : ∀ v w', R v w' → WUI P ro n ops Q rest D e w') : WUI P ro n ops Q (o :: rest) D e w := ⟨fun a ha => by
  unfold wpListIn
  rw [wn_spec hg ha, if_pos rfl]
  exact uponIn_of_stp ha hnd h fun v w' hr => (hk v w' hr).out _ (by rw [hd]; exact ha)⟩
theorem WUI.skip {o : Oper} {rest : List Oper} {d : Nat} (hd : o.dst = some d) (hl : Nat.blt d n = true) (hg : wn ops e o.guard = some false) (hk : WUI P ro n ops Q rest D ((d, undef) :: e) w) :
    WUI P ro n ops Q (o :: rest) D e w := ⟨fun a ha => by
  unfold wpListIn
  rw [wn_spec hg ha]
  simp only [Bool.false_eq_true, if_false]
  exact ⟨fun _ _ => trivial, hk.out _ (by rw [hd]; exact ha.put (by simpa [Nat.blt_eq] using hl) _)⟩⟩
theorem WUI.yld {o : Oper} {rest : List Oper} {d : Nat} {v : Value} (hd : o.dst = some d) (hl : Nat.blt d n = true) (hg : wn ops e o.guard = some true) (hnd : nd o.op = true) (h : Yld P e o v w)
    (hk : WUI P ro n ops Q rest D ((d, v) :: e) w) : WUI P ro n ops Q (o :: rest) D e w :=
  WUI.stp hd hl hg hnd h.stp fun _ _ ⟨h1, h2⟩ => by rw [h1, h2]; exact hk

/-- a call of yield -/
theorem WUI.round {rest : List Oper} {d : Nat} {x : Operand} {args : List Operand} {tys : Array TypeId} {ty : TypeId} {pos : String} {aft : Array Edge} {l : Nat} {r : Loop} {vs : List Value} {R : Value → World → Prop} (hl : Nat.blt d n = true) (hx : ev e x = some (.func (.yield l) #[] #[]))
    (ha : evs e args = some vs) (hl2 : w.heap[l]? = some (.loop r)) (hps : vs.length = r.params.size)
    (hr : RoundIn (Fz none) 0 P l r.fn ((r.params.zip vs.toArray).foldl (fun tmps (t, a) => tmps.setIfInBounds t a) r.tmps) r.assign r.body w (fun en w' => ∃ v, en = .returned v ∧ R v w'))
    (hk : ∀ v w', R v w' → WUI P none n ops Q rest D ((d, v) :: e) w') : WUI P none n ops Q (⟨some d, .call ⟨.value x, args.toArray, tys⟩, ty, pos, aft, none⟩ :: rest) D e w := ⟨fun a hfa => by
  unfold wpListIn
  rw [wn_spec (r := true) rfl hfa, if_pos rfl]
  refine ⟨fun _ _ => trivial, ?_⟩
  have hv : args.toArray.map a.eval = vs.toArray := by rw [← evs_spec hfa.ag args vs ha]; simp
  have hx' := hfa.ag _ _ hx
  have hy := run_yield (P := P) (args := vs.toArray) hl2 (by simpa using hps)
  rw [Oper.semAt_eq _ _ _ (nd_ne rfl)]
  have he : (execOp a.eval ⟨some d, .call ⟨.value x, args.toArray, tys⟩, ty, pos, aft, none⟩).run P w = .ok (.round l r.fn ((r.params.zip vs.toArray).foldl (fun tmps (t, a) => tmps.setIfInBounds t a) r.tmps) r.assign r.body) w := by
    simp only [execOp, resolve, hv, hx', Deferred.ofValue, invoke, Sem.run_bind, Sem.run_pure, Result.andThen_ok, Array.empty_append]
    exact hy
  rw [he]
  refine ⟨fun h => (by cases h), hr.mono fun en w' hx => ?_⟩
  obtain ⟨v, rfl, h2⟩ := hx
  exact (hk v w' h2).out _ (hfa.put (by simpa [Nat.blt_eq] using hl) v)⟩
/-- a round that ends off its end -/
theorem round_of {l n0 : Nat} {r : Loop} {tmps : Array Value} {e1 : Env} {w : World} {R : Value → World → Prop} (hr : r.state = .ready) (ht : Fr n0 [] e1 { tmps := tmps, defers := [] })
    (h : WI P (some l) n0 r.assign (fun x D e2 w1 => x = .normal ∧ D = [] ∧ w1.heap[l]? = some (.loop r) ∧ WI P (some l) n0 r.body (fun x _ _ w3 => x = .normal ∧ ∃ r', w3.heap[l]? = some (.loop r') ∧ R (.bool true) (w3.putObj l (.loop { r' with state := .ready, pending := none }))) [] e2
      (w1.putObj l (.loop { r with state := .busy }))) [] e1 w) :
    RoundIn (Fz none) 0 P l r.fn tmps r.assign r.body w (fun en w' => ∃ v, en = .returned v ∧ R v w') := by
  refine roundIn_of_wpIn (F := Fz none) trivial (wpIn_mono (h.out _ ht) fun x a' w' hx => ?_)
  cases x with
  | normal =>
    obtain ⟨D', e2, ha, -, rfl, hl, hb⟩ := hx
    refine ⟨_, run_beginRound hl hr, wpIn_mono (hb.out _ ha) fun y a2 w2 hy => ?_⟩
    cases y with
    | normal =>
      obtain ⟨D2, e3, _, -, r', hl', hR⟩ := hy
      exact ⟨_, _, run_endRound none hl', _, rfl, hR⟩
    | panic _ => exact hy.elim
    | outgrown => exact hy.elim
    | ret => obtain ⟨_, _, _, h, _⟩ := hy; cases h
    | exit _ => obtain ⟨_, _, _, h, _⟩ := hy; cases h
    | goto _ => obtain ⟨_, _, _, h, _⟩ := hy; cases h
  | panic _ => exact hx.elim
  | outgrown => exact hx.elim
  | ret => obtain ⟨_, _, _, h, _⟩ := hx; cases h
  | exit _ => obtain ⟨_, _, _, h, _⟩ := hx; cases h
  | goto _ => obtain ⟨_, _, _, h, _⟩ := hx; cases h

/-- the statement: the function that is ranged over is called; no jump is left -/
theorem W.rangeFn {g : Operand} {ps : Array Tmp} {assign body : Code} {f : FuncId} {caps : Array Value} {fn' : Go.Func} (hf : P.funcs[f]? = some fn') (hname : (fn'.name == "runtime.NumGoroutine") = false) (hbd : fn'.body.isNone = false) (hg : ev e g = some (.func (.func f) #[] caps))
    (h : ∀ fn a, Fr n D e a → Calls P f (#[.func (.yield (w.heap.size + 1)) #[] #[]] ++ caps) ((w.alloc (.deferred (some []))).alloc (.loop { state := .ready, pending := none, fn := fn, tmps := a.tmps, params := ps, assign := assign, body := body, defers := w.heap.size })) fun en w3 =>
      ∃ v r, en = .returned v ∧ w3.heap[w.heap.size + 1]? = some (.loop r) ∧ r.state ≠ .busy ∧ r.pending = none ∧ Q .normal ([{ target := .collected w.heap.size, args := #[] }] ++ D) e (w3.putObj (w.heap.size + 1) (.loop { r with state := .exhausted }))) :
    W P n (.rangeFunc g ps assign body) Q D e w := ⟨fun a ha => by
  refine (wpIn_wide (n := 0)).1 (wpIn_rangeFunc (F := Fence.wide) fun fn _ => ?_)
  have hg' := ha.ag _ _ hg
  have hres : (resolve a.eval (rangeCall g (w.heap.size + 1)) 0).run P ((w.alloc (.deferred (some []))).alloc (.loop { state := .ready, pending := none, fn := fn, tmps := a.tmps, params := ps, assign := assign, body := body, defers := w.heap.size })) =
      .ok { target := .fn (.func f) caps, args := #[.func (.yield (w.heap.size + 1)) #[] #[]] } ((w.alloc (.deferred (some []))).alloc (.loop { state := .ready, pending := none, fn := fn, tmps := a.tmps, params := ps, assign := assign, body := body, defers := w.heap.size })) := by
    simp only [resolve, hg', Deferred.ofValue, Sem.run_pure]
    simp [Act.eval]
  have hen := run_enterLoop_outer (P := P) (w := w) fn a.tmps ps assign body
  have hc := h fn a ha
  generalize (w.alloc (.deferred (some []))).alloc (.loop { state := .ready, pending := none, fn := fn, tmps := a.tmps, params := ps, assign := assign, body := body, defers := w.heap.size }) = W1 at hres hen hc
  have hinv : (invoke (.fn (.func f) caps) (#[.func (.yield (w.heap.size + 1)) #[] #[]])).run P W1 = .ok (.enter f (#[.func (.yield (w.heap.size + 1)) #[] #[]] ++ caps)) W1 := by
    simp only [invoke, callFunc, program, bind, Sem.bind, Sem.run, pure, hf, hname, hbd, Bool.false_eq_true, if_false]
  have hpost : CallsIn Fence.wide (0 - 1) P f (#[.func (.yield (w.heap.size + 1)) #[] #[]] ++ caps) W1 (rangePost Fence.wide 0 P (w.heap.size + 1) (post n Q) { a with defers := [{ target := .collected w.heap.size, args := #[] }] ++ a.defers }) := by
    refine (callsIn_wide (n := 0 - 1)).2 (hc.mono fun en w3 hx => ?_)
    obtain ⟨v, r, rfl, h1, h2, h3, h4⟩ := hx
    have he := run_endLoop (P := P) h1 h2
    rw [h3] at he
    refine ⟨none, _, he, ?_⟩
    rw [h3] at h4
    exact ⟨_, _, ⟨ha.size, by show _ ++ a.defers = _; rw [ha.defers], ha.get⟩, h4⟩
  exact ⟨_, _, W1, _, W1, f, _, W1, hen, hres, fun _ _ => trivial, hinv, fun h => (by cases h), hpost⟩⟩
/-- behind a range over a function: the mark is come to -/
theorem W.enterM {k : Nat} {fn : Go.Func} {c : Code} {args : List Value} {w : World} {R : Value → World → Prop} (hf : P.funcs[k]? = some fn) (hb : fn.body = some c)
    (hn : fn.ntmps = n) (hl : Nat.ble args.length n = true) {e : Env} (he : argO args = some e) {t : Nat} (hres : fn.results = #[.tmp t])
    (h : W P n c (fun x D e' w' => (x = .ret ∨ x = .normal) ∧ ∃ b v, D = [{ target := .collected b, args := #[] }] ∧ w'.heap[b]? = some (.deferred (some [])) ∧ lk e' t = some v ∧ R v (w'.putObj b (.deferred none))) [] e w) : Calls P k args.toArray w (Ret R) := by
  refine (callsIn_wide (n := 0)).1 (callsIn_of_wp_marks hf hb trivial ((wpIn_wide (n := 0)).2 (wp_mono ((argO_eq args e he ▸ h : W P n c _ [] (argE args 0) w).out { tmps := args.toArray ++ Array.replicate (fn.ntmps - args.toArray.size) undef, defers := [] } ⟨by have := Nat.le_of_ble_eq_true hl; simp; omega, rfl, fun i v hi => by
      obtain ⟨_, h2⟩ := argE_lk args 0 i v hi
      simp only [Nat.sub_zero] at h2
      have : i < args.length := (List.getElem?_eq_some_iff.1 h2).1
      rw [Array.getElem?_append_left (by simpa using this)]
      simpa using h2⟩) fun x a' w' hx => ?_)) rfl)
  have fin : ∀ a' : Act, ∀ D' e' b v, Fr n D' e' a' → D' = [{ target := .collected b, args := #[] }] → w'.heap[b]? = some (.deferred (some [])) → lk e' t = some v → R v (w'.putObj b (.deferred none)) →
      LeavesInM Fence.wide 0 P fn a'.tmps (Ret R) a'.defers .returning w' := fun a' D' e' b v ha hD hb hv hR => by
    rw [ha.defers, hD]
    refine ⟨fun h => (by cases h), .inl ⟨b, _, rfl, run_takeDeferred hb, ?_⟩⟩
    exact ⟨_, run_results (vs := [v]) ha (by rw [hres]; exact .tmp hv .nil), _, rfl, hR⟩
  cases x with
  | normal => obtain ⟨D', e', ha, -, b, v, h1, h2, h3, h4⟩ := hx; exact fin _ D' e' b v ha h1 h2 h3 h4
  | ret => obtain ⟨D', e', ha, -, b, v, h1, h2, h3, h4⟩ := hx; exact fin _ D' e' b v ha h1 h2 h3 h4
  | panic ch => exact hx.elim
  | outgrown => exact hx.elim
  | exit id => obtain ⟨_, _, _, h, _⟩ := hx; rcases h with h | h <;> cases h
  | goto l => obtain ⟨_, _, _, h, _⟩ := hx; rcases h with h | h <;> cases h
/-- a function whose body calls yield -/
theorem WI.enter {k : Nat} {fn : Go.Func} {c : Code} {args : List Value} {w : World} {R : Ending → World → Prop} (hf : P.funcs[k]? = some fn) (hb : fn.body = some c)
    (hn : fn.ntmps = n) (hl : Nat.ble args.length n = true) {e : Env} (he : argO args = some e) (h : WI P none n c (Kd.fin P fn R) [] e w) : Calls P k args.toArray w R := by
  refine callsOfFz (n := 0) (callsIn_of_wp (F := Fz none) hf hb trivial (wpIn_mono ((argO_eq args e he ▸ h : WI P none n c _ [] (argE args 0) w).out { tmps := args.toArray ++ Array.replicate (fn.ntmps - args.toArray.size) undef, defers := [] } ⟨by have := Nat.le_of_ble_eq_true hl; simp; omega, rfl, fun i v hi => by
      obtain ⟨_, h2⟩ := argE_lk args 0 i v hi
      simp only [Nat.sub_zero] at h2
      have : i < args.length := (List.getElem?_eq_some_iff.1 h2).1
      rw [Array.getElem?_append_left (by simpa using this)]
      simpa using h2⟩) fun x a' w' hx => ?_))
  cases x with
  | normal =>
    obtain ⟨D', e', ha, hD, vs, hr, hR⟩ := hx
    exact ⟨by rw [ha.defers, hD], _, run_results ha hr, hR⟩
  | ret =>
    obtain ⟨D', e', ha, hD, vs, hr, hR⟩ := hx
    exact ⟨by rw [ha.defers, hD], _, run_results ha hr, hR⟩
  | panic ch => exact hx.elim
  | outgrown => exact hx.elim
  | exit id => obtain ⟨_, _, _, h⟩ := hx; exact h.elim
  | goto l => obtain ⟨_, _, _, h⟩ := hx; exact h.elim
end
theorem fold2 (a b : Nat) (u v : Value) (ts : Array Value) : Array.foldl (fun tmps (x : Nat × Value) => match x with | (t, a) => tmps.setIfInBounds t a) ts ((#[a, b] : Array Nat).zip #[u, v]) = (ts.setIfInBounds a u).setIfInBounds b v := by
  rw [show (#[a, b] : Array Nat).zip #[u, v] = #[(a, u), (b, v)] from by rw [List.zip_toArray]; rfl]
  rfl
theorem yld_makeFunc {P : Program} {e : Env} {w : World} {d : Option Tmp} {ty : TypeId} {pos : String} {aft : Array Edge} {g : Option (Nat × Bool)} {fn : Fn} {caps : List Operand} {vs : List Value} (ha : evs e caps = some vs) :
    Yld P e ⟨d, .makeFunc fn #[] caps.toArray, ty, pos, aft, g⟩ (.func fn #[] vs.toArray) w := ⟨fun ρ hρ w' _ => by
  have hv : caps.toArray.map ρ = vs.toArray := by rw [← evs_spec hρ caps vs ha]; simp
  simp [execOp, Instr.makeFunc, hv]⟩
theorem Upd.putObj {w : World} {l : Nat} {o o' : Obj} (h : w.heap[l]? = some o) : Upd w l o' (w.putObj l o') :=
  ⟨⟨World.putObj_heap_same (Array.getElem?_eq_some_iff.1 h).1⟩, fun _ hc => World.putObj_heap_other hc, World.putObj_size, rfl, rfl, rfl⟩
end Go.Kd
namespace Go.Proofs.YtpiegpegjbmlkaaGreatDoor
open Go Go.Kd
set_option maxRecDepth 100000

abbrev tAL : Nat := 125
abbrev tSL : Nat := 107
theorem c_Unalias_no (T : Nat) (v : Value) (w : World) (hT : Nat.beq T tAL = false) :
    Calls Tryz.prog 102 #[.iface T v] w (Ret fun r w' => r = .iface T v ∧ w = w') := by
  refine W.enter (args := [.iface T v]) Tryz.func102 rfl Tryz.ntmps102 rfl rfl ?_
  refine zst ?_
  exact fin1 (.inl rfl) rfl rfl ⟨rfl, rfl⟩
theorem c_Slice_Underlying (b : Nat) (w : World) : Calls Tryz.prog 261 #[pt b] w (Ret fun r w' => r = .iface tSL (pt b) ∧ w = w') := by
  refine W.enter (args := [pt b]) Tryz.func261 rfl Tryz.ntmps261 rfl rfl ?_
  refine zst ?_
  exact fin1 (.inl rfl) rfl rfl ⟨rfl, rfl⟩
theorem c_isString_slice (b : Nat) (w : World) : Calls Tryz.prog 162 #[.iface tSL (pt b)] w (Ret fun r w' => r = .bool false ∧ w = w') := by
  have key : Calls Tryz.prog 103 #[.iface tSL (pt b), .int .i64 32] w (Ret fun r w' => r = .bool false ∧ w = w') := by
    refine W.enter (args := [.iface tSL (pt b), .int .i64 32]) Tryz.func103 rfl Tryz.ntmps103 rfl rfl ?_
    refine zst ?_
    refine WU.stp rfl rfl rfl (stp_invoke rfl rfl (c_Slice_Underlying b w)) ?_
    rintro _ _ ⟨rfl, rfl⟩
    refine zst ?_
    exact fin1 (.inl rfl) rfl rfl ⟨rfl, rfl⟩
  refine W.enter (args := [.iface tSL (pt b)]) Tryz.func162 rfl Tryz.ntmps162 rfl rfl ?_
  refine zst ?_
  refine WU.stp rfl rfl rfl (stp_call rfl (key)) ?_
  rintro _ _ ⟨rfl, rfl⟩
  refine zst ?_
  exact fin1 (.inl rfl) rfl rfl ⟨rfl, rfl⟩

theorem c_all (b l : Nat) (r : Loop) (w : World) (R : Value → World → Prop) (hl : w.heap[l]? = some (.loop r)) (hps : r.params = #[35, 36])
    (hr : RoundIn (Fz none) 0 Tryz.prog l r.fn ((r.tmps.setIfInBounds 35 (.iface tSL (pt b))).setIfInBounds 36 (.iface tSL (pt b))) r.assign r.body w (fun en w' => ∃ v, en = .returned v ∧ R v w')) :
    Calls Tryz.prog 187 #[.iface tSL (pt b), .func (.yield l) #[] #[]] w (Ret R) := by
  refine WI.enter (args := [.iface tSL (pt b), .func (.yield l) #[] #[]]) Tryz.func187 rfl Tryz.ntmps187 rfl rfl ?_
  (repeat (first
      | (guard_target =~ gUI _; first
          | (guard_target =~ gUI []; first | refine WUI.nilk ?_ | refine WUI.nil ?_)
          | refine WUI.yld rfl rfl rfl rfl zyl ?_
          | refine WUI.skip rfl rfl rfl ?_)
      | (guard_target =~ gWI (.seq _ _); refine WI.seq ?_)
      | (guard_target =~ gWI (.region _ _ false); refine WI.reg ?_)
      | (guard_target =~ gWI (.cond _ _ _); first | refine WI.cond_t rfl ?_ | refine WI.cond_f rfl ?_)
      | (guard_target =~ gWI (.block _ _); refine WI.block ?_)
      | (guard_target =~ gWI .skip; refine WI.skip ?_)
      | (guard_target =~ gWI (.exit _); refine WI.exit ?_)
      | (guard_target =~ gWI .ret; refine WI.ret ?_)
      | (guard_target =~ gT .normal; refine thn_normal ?_)
      | (guard_target =~ gT (.exit _); refine thn_exit ?_)
      | (guard_target =~ gT .ret; refine thn_ret ?_)
      | (guard_target =~ gI .normal; refine inb_normal ?_)
      | (guard_target =~ gI (.exit _); first | refine inb_hit ?_ | refine inb_miss rfl ?_)
      | (guard_target =~ gI .ret; refine inb_ret ?_)))
  refine WUI.stp rfl rfl rfl rfl (stp_call rfl (c_Unalias_no _ _ w rfl)) ?_
  rintro _ _ ⟨rfl, rfl⟩
  (repeat (first
      | (guard_target =~ gUI _; first
          | (guard_target =~ gUI []; first | refine WUI.nilk ?_ | refine WUI.nil ?_)
          | refine WUI.yld rfl rfl rfl rfl zyl ?_
          | refine WUI.skip rfl rfl rfl ?_)
      | (guard_target =~ gWI (.seq _ _); refine WI.seq ?_)
      | (guard_target =~ gWI (.region _ _ false); refine WI.reg ?_)
      | (guard_target =~ gWI (.cond _ _ _); first | refine WI.cond_t rfl ?_ | refine WI.cond_f rfl ?_)
      | (guard_target =~ gWI (.block _ _); refine WI.block ?_)
      | (guard_target =~ gWI .skip; refine WI.skip ?_)
      | (guard_target =~ gWI (.exit _); refine WI.exit ?_)
      | (guard_target =~ gWI .ret; refine WI.ret ?_)
      | (guard_target =~ gT .normal; refine thn_normal ?_)
      | (guard_target =~ gT (.exit _); refine thn_exit ?_)
      | (guard_target =~ gT .ret; refine thn_ret ?_)
      | (guard_target =~ gI .normal; refine inb_normal ?_)
      | (guard_target =~ gI (.exit _); first | refine inb_hit ?_ | refine inb_miss rfl ?_)
      | (guard_target =~ gI .ret; refine inb_ret ?_)))
  refine WUI.stp rfl rfl rfl rfl (stp_invoke rfl rfl (c_Slice_Underlying b w)) ?_
  rintro _ _ ⟨rfl, rfl⟩
  refine WUI.round rfl rfl rfl hl (by rw [hps]; rfl) (by rw [hps, fold2]; exact hr) ?_
  rintro v w' hR
  (repeat (first
      | (guard_target =~ gUI _; first
          | (guard_target =~ gUI []; first | refine WUI.nilk ?_ | refine WUI.nil ?_)
          | refine WUI.yld rfl rfl rfl rfl zyl ?_
          | refine WUI.skip rfl rfl rfl ?_)
      | (guard_target =~ gWI (.seq _ _); refine WI.seq ?_)
      | (guard_target =~ gWI (.region _ _ false); refine WI.reg ?_)
      | (guard_target =~ gWI (.cond _ _ _); first | refine WI.cond_t rfl ?_ | refine WI.cond_f rfl ?_)
      | (guard_target =~ gWI (.block _ _); refine WI.block ?_)
      | (guard_target =~ gWI .skip; refine WI.skip ?_)
      | (guard_target =~ gWI (.exit _); refine WI.exit ?_)
      | (guard_target =~ gWI .ret; refine WI.ret ?_)
      | (guard_target =~ gT .normal; refine thn_normal ?_)
      | (guard_target =~ gT (.exit _); refine thn_exit ?_)
      | (guard_target =~ gT .ret; refine thn_ret ?_)
      | (guard_target =~ gI .normal; refine inb_normal ?_)
      | (guard_target =~ gI (.exit _); first | refine inb_hit ?_ | refine inb_miss rfl ?_)
      | (guard_target =~ gI .ret; refine inb_ret ?_)))
  exact fin1 (.inl rfl) rfl rfl hR
theorem c_typeset1 (b l c : Nat) (r : Loop) (w : World) (R : Value → World → Prop) (hc : Has w c (.cells #[.iface tSL (pt b)] tTY)) (hl : w.heap[l]? = some (.loop r)) (hps : r.params = #[35, 36])
    (hr : RoundIn (Fz none) 0 Tryz.prog l r.fn ((r.tmps.setIfInBounds 35 (.iface tSL (pt b))).setIfInBounds 36 (.iface tSL (pt b))) r.assign r.body w (fun en w' => ∃ v, en = .returned v ∧ R v w')) :
    Calls Tryz.prog 186 #[.func (.yield l) #[] #[], pt c] w (Ret fun _ w' => ∃ v, R v w') := by
  refine W.enter (args := [.func (.yield l) #[] #[], pt c]) Tryz.func186 rfl Tryz.ntmps186 rfl rfl ?_
  refine zst ?_
  refine WU.stp rfl rfl rfl (stp_call rfl (c_all b l r w R hl hps hr)) ?_
  rintro v w' hR
  refine zst ?_
  exact fin0 (.inr rfl) rfl ⟨v, hR⟩
theorem c_typeset (b : Nat) (w : World) : Calls Tryz.prog 161 #[.iface tSL (pt b)] w (Ret fun r w' => ∃ c, r = .func (.func 186) #[] #[pt c] ∧ New w c (.cells #[.iface tSL (pt b)] tTY) w') := by
  refine W.enter (args := [.iface tSL (pt b)]) Tryz.func161 rfl Tryz.ntmps161 rfl rfl ?_
  refine zst ?_
  refine WU.stp rfl rfl rfl (by first | exact stp_box rfl rfl | exact stp_box1 rfl rfl) ?_
  rintro _ w1 ⟨b1, rfl, n1⟩
  refine zst ?_
  refine WU.yld rfl rfl rfl (yld_makeFunc rfl) ?_
  refine zst ?_
  exact fin1 (.inl rfl) rfl rfl ⟨b1, rfl, n1⟩

/-- a tuple's variables -/
theorem c_TupLen (b : Nat) (a : Option Addr) (n c : Nat) (w : World) (h : Has w b (.cells #[.slice a n c] 220)) : Calls Tryz.prog 134 #[pt b] w (Ret fun r w' => r = .int .i64 n ∧ w = w') := by
  refine W.enter (args := [pt b]) Tryz.func134 rfl Tryz.ntmps134 rfl rfl ?_
  refine zst ?_
  exact fin1 (.inl rfl) rfl rfl ⟨rfl, rfl⟩
theorem c_TupAt (b : Nat) (a : Option Addr) (n c : Nat) (f : Nat → Nat) (i : Nat) (w : World) (h : Has w b (.cells #[.slice a n c] 220)) (hr : RowP w 80 a n f) (hi : i < n) :
    Calls Tryz.prog 160 #[pt b, .int .i64 i] w (Ret fun r w' => r = pt (f i) ∧ w = w') := by
  obtain ⟨rb, rfl, hrc⟩ := hr.cell hi
  refine W.enter (args := [pt b, .int .i64 i]) Tryz.func160 rfl Tryz.ntmps160 rfl rfl ?_
  refine zst ?_
  refine WU.yld rfl rfl rfl (yld_load_c rfl hrc) ?_
  refine zst ?_
  exact fin1 (.inl rfl) rfl rfl ⟨rfl, rfl⟩

/-- what is asked of the parameters of a variadic function -/
def LastSl (w : World) (ps : Value) : Prop := ∃ pb a n c f sb pk nm kd, ps = pt pb ∧ 0 < n ∧ Has w pb (.cells #[.slice a n c] 220) ∧ RowP w 80 a n f ∧ VarV w (f (n - 1)) pk nm (.iface tSL (pt sb)) kd false ∧ n ≤ 1073741824
theorem c_NewSignatureType0 (rv ps rs : Option Addr) (w : World) :
    Calls Tryz.prog 128 #[.pointer rv, .slice none 0 0, .slice none 0 0, .pointer ps, .pointer rs, .bool false] w (Ret fun r w' => ∃ b, r = pt b ∧ w.heap.size ≤ b ∧ Has w' b (.cells #[.pointer rv, .pointer none, .pointer ps, .pointer rs, .bool false] tSG) ∧ Ext w w') := by
  refine W.enter (args := [.pointer rv, .slice none 0 0, .slice none 0 0, .pointer ps, .pointer rs, .bool false]) Tryz.func128 rfl Tryz.ntmps128 rfl rfl ?_
  refine zst ?_
  refine WU.stp rfl rfl rfl (by first | exact stp_box rfl rfl | exact stp_box1 rfl rfl) ?_
  rintro _ w1 ⟨b1, rfl, n1⟩
  refine zst ?_
  exact fin1 (.inl rfl) rfl rfl ⟨b1, rfl, Nat.le_of_eq n1.num.symm, n1.has, n1.ext⟩

set_option maxHeartbeats 2000000 in
theorem c_NewSignatureType1 (rv ps rs : Option Addr) (w : World) (hl : LastSl w (.pointer ps)) :
    Calls Tryz.prog 128 #[.pointer rv, .slice none 0 0, .slice none 0 0, .pointer ps, .pointer rs, .bool true] w (Ret fun r w' => ∃ b, r = pt b ∧ w.heap.size ≤ b ∧ Has w' b (.cells #[.pointer rv, .pointer none, .pointer ps, .pointer rs, .bool true] tSG) ∧ Ext w w') := by
  obtain ⟨pb, a, n, c, f, sb, pk, nm, kd, hps, hn, hpb, hrow, hvar, hnn⟩ := hl
  cases hps
  have hvar' : Has w (f (n - 1)) (.cells #[.int .i64 0, pk, .string nm, .iface tSL (pt sb), .int .u8 kd, .bool false] 106) := hvar
  refine W.enterM (args := [.pointer rv, .slice none 0 0, .slice none 0 0, pt pb, .pointer rs, .bool true]) Tryz.func128 rfl Tryz.ntmps128 rfl rfl rfl ?_
  refine zst ?_
  refine WU.stp rfl rfl rfl (stp_call rfl (c_TupLen pb a n c w hpb)) ?_
  rintro _ _ ⟨rfl, rfl⟩
  refine zst ?_
  rw [show ((n : Int) == 0) = false from by rw [beq_eq_false_iff_ne]; omega]
  refine zst ?_
  rw [show (n : Int) - 1 = ((n - 1 : Nat) : Int) from by omega]
  refine WU.stp rfl rfl rfl (stp_call rfl (c_TupAt pb a n c f (n - 1) w hpb hrow (by omega))) ?_
  rintro _ _ ⟨rfl, rfl⟩
  refine zst ?_
  refine WU.stp rfl rfl rfl stp_alloc ?_
  rintro _ w1 ⟨b1, rfl, n1⟩
  refine zst ?_
  refine WU.stp rfl rfl rfl (stp_call rfl (c_typeset sb w1)) ?_
  rintro _ w2 ⟨c2, rfl, n2⟩
  refine zst ?_
  have hS : Has w2 b1 (.cells #[.pointer none] tSL) := n1.has.ext' n2.ext
  have hb1 : b1 < w2.heap.size := hS.lt
  have hC : Has w2 c2 (.cells #[.iface tSL (pt sb)] tTY) := n2.has
  have x2 : Ext w w2 := n1.ext.trans n2.ext
  refine W.rangeFn (caps := #[pt c2]) Tryz.func186 (by kernel_rfl) (by kernel_rfl) rfl fun fn act hact => ?_
  have hal2 : ∀ (W : World) (o1 o2 : Obj), ((W.alloc o1).alloc o2).heap[W.heap.size + 1]? = some o2 := fun W o1 o2 => by
    have := World.alloc_heap_new (W.alloc o1) o2
    rw [show (W.alloc o1).heap.size = W.heap.size + 1 from by simp] at this
    exact this
  have hal1 : ∀ (W : World) (o1 o2 : Obj), ((W.alloc o1).alloc o2).heap[W.heap.size]? = some o1 := fun W o1 o2 => by
    show ((W.heap.push o1).push o2)[W.heap.size]? = some o1
    rw [Array.getElem?_push, if_neg (by simp), Array.getElem?_push, if_pos rfl]
  have hx : ∀ (o1 o2 : Obj), Ext w2 ((w2.alloc o1).alloc o2) := fun o1 o2 => (New.alloc w2 o1).ext.trans (New.alloc _ o2).ext
  let R0 : Value → World → Prop := fun v w' => v = .bool true ∧ ∃ r', w'.heap[w2.heap.size + 1]? = some (.loop r') ∧ r'.state = .ready ∧ r'.pending = none ∧ Has w' b1 (.cells #[pt sb] tSL) ∧ w'.heap[w2.heap.size]? = some (.deferred (some [])) ∧ Ext w w'
  refine Calls.mono (R := Ret fun _ w' => ∃ v, R0 v w') ?_ ?_
  refine c_typeset1 sb (w2.heap.size + 1) c2 _ _ R0 (hC.ext' (hx _ _)) (hal2 _ _ _) ?_ ?_
  · rfl
  · refine round_of (e1 := (36, .iface tSL (pt sb)) :: (35, .iface tSL (pt sb)) :: _) rfl ⟨by simpa using hact.size, rfl, ((hact.put (d := 35) (by decide) _).put (d := 36) (by decide) _).get⟩ ?_
    refine WI.reg ?_
    refine WUI.yld rfl rfl rfl rfl (yf rfl) ?_
    refine WUI.nil ⟨rfl, rfl, hal2 _ _ _, ?_⟩
    have facts : ∀ (o2 : Obj) (r3 : Loop), (fun W : World => Has W b1 (.cells #[.pointer none] tSL) ∧ W.heap[w2.heap.size]? = some (.deferred (some [])) ∧ (∃ r, W.heap[w2.heap.size + 1]? = some (.loop r)) ∧ Ext w W) (((w2.alloc (.deferred (some []))).alloc o2).putObj (w2.heap.size + 1) (.loop r3)) := fun o2 r3 => by
      have u := Upd.putObj (o' := .loop r3) (hal2 w2 (.deferred (some [])) o2)
      have hx2 := x2.trans (hx (.deferred (some [])) o2)
      have hsz := x2.size
      exact ⟨⟨(u.oth b1 (by omega)).trans (hS.ext' (hx (.deferred (some [])) o2)).at_⟩, (u.oth _ (by omega)).trans (hal1 w2 _ o2), ⟨r3, u.has.at_⟩, ⟨bel_upd hx2.below u (by omega)⟩⟩
    refine WI.abs (Pw := fun W : World => Has W b1 (.cells #[.pointer none] tSL) ∧ W.heap[w2.heap.size]? = some (.deferred (some [])) ∧ (∃ r, W.heap[w2.heap.size + 1]? = some (.loop r)) ∧ Ext w W) (facts _ _) ?_
    rintro W ⟨g1, g2, ⟨r3, g3⟩, g4⟩
    (repeat (first
        | (guard_target =~ gUI _; first
            | (guard_target =~ gUI []; first | refine WUI.nilk ?_ | refine WUI.nil ?_)
            | refine WUI.yld rfl rfl rfl rfl zyl ?_
            | refine WUI.skip rfl rfl rfl ?_)
        | (guard_target =~ gWI (.seq _ _); refine WI.seq ?_)
        | (guard_target =~ gWI (.region _ _ false); refine WI.reg ?_)
        | (guard_target =~ gWI (.cond _ _ _); first | refine WI.cond_t rfl ?_ | refine WI.cond_f rfl ?_)
        | (guard_target =~ gWI (.block _ _); refine WI.block ?_)
        | (guard_target =~ gWI .skip; refine WI.skip ?_)
        | (guard_target =~ gWI (.exit _); refine WI.exit ?_)
        | (guard_target =~ gWI .ret; refine WI.ret ?_)
        | (guard_target =~ gT .normal; refine thn_normal ?_)
        | (guard_target =~ gT (.exit _); refine thn_exit ?_)
        | (guard_target =~ gT .ret; refine thn_ret ?_)
        | (guard_target =~ gI .normal; refine inb_normal ?_)
        | (guard_target =~ gI (.exit _); first | refine inb_hit ?_ | refine inb_miss rfl ?_)
        | (guard_target =~ gI .ret; refine inb_ret ?_)))
    refine WUI.stp rfl rfl rfl rfl (stp_call rfl (c_isString_slice sb W)) ?_
    rintro _ _ ⟨rfl, rfl⟩
    (repeat (first
        | (guard_target =~ gUI _; first
            | (guard_target =~ gUI []; first | refine WUI.nilk ?_ | refine WUI.nil ?_)
            | refine WUI.yld rfl rfl rfl rfl zyl ?_
            | refine WUI.skip rfl rfl rfl ?_)
        | (guard_target =~ gWI (.seq _ _); refine WI.seq ?_)
        | (guard_target =~ gWI (.region _ _ false); refine WI.reg ?_)
        | (guard_target =~ gWI (.cond _ _ _); first | refine WI.cond_t rfl ?_ | refine WI.cond_f rfl ?_)
        | (guard_target =~ gWI (.block _ _); refine WI.block ?_)
        | (guard_target =~ gWI .skip; refine WI.skip ?_)
        | (guard_target =~ gWI (.exit _); refine WI.exit ?_)
        | (guard_target =~ gWI .ret; refine WI.ret ?_)
        | (guard_target =~ gT .normal; refine thn_normal ?_)
        | (guard_target =~ gT (.exit _); refine thn_exit ?_)
        | (guard_target =~ gT .ret; refine thn_ret ?_)
        | (guard_target =~ gI .normal; refine inb_normal ?_)
        | (guard_target =~ gI (.exit _); first | refine inb_hit ?_ | refine inb_miss rfl ?_)
        | (guard_target =~ gI .ret; refine inb_ret ?_)))
    refine WUI.stp rfl rfl rfl rfl (stp_invoke rfl rfl (c_Slice_Underlying sb W)) ?_
    rintro _ _ ⟨rfl, rfl⟩
    (repeat (first
        | (guard_target =~ gUI _; first
            | (guard_target =~ gUI []; first | refine WUI.nilk ?_ | refine WUI.nil ?_)
            | refine WUI.yld rfl rfl rfl rfl zyl ?_
            | refine WUI.skip rfl rfl rfl ?_)
        | (guard_target =~ gWI (.seq _ _); refine WI.seq ?_)
        | (guard_target =~ gWI (.region _ _ false); refine WI.reg ?_)
        | (guard_target =~ gWI (.cond _ _ _); first | refine WI.cond_t rfl ?_ | refine WI.cond_f rfl ?_)
        | (guard_target =~ gWI (.block _ _); refine WI.block ?_)
        | (guard_target =~ gWI .skip; refine WI.skip ?_)
        | (guard_target =~ gWI (.exit _); refine WI.exit ?_)
        | (guard_target =~ gWI .ret; refine WI.ret ?_)
        | (guard_target =~ gT .normal; refine thn_normal ?_)
        | (guard_target =~ gT (.exit _); refine thn_exit ?_)
        | (guard_target =~ gT .ret; refine thn_ret ?_)
        | (guard_target =~ gI .normal; refine inb_normal ?_)
        | (guard_target =~ gI (.exit _); first | refine inb_hit ?_ | refine inb_miss rfl ?_)
        | (guard_target =~ gI .ret; refine inb_ret ?_)))
    refine WUI.stp0 rfl rfl rfl (stp_store_cell rfl rfl rfl rfl) ?_
    rintro _ W' u'
    (repeat (first
        | (guard_target =~ gUI _; first
            | (guard_target =~ gUI []; first | refine WUI.nilk ?_ | refine WUI.nil ?_)
            | refine WUI.yld rfl rfl rfl rfl zyl ?_
            | refine WUI.skip rfl rfl rfl ?_)
        | (guard_target =~ gWI (.seq _ _); refine WI.seq ?_)
        | (guard_target =~ gWI (.region _ _ false); refine WI.reg ?_)
        | (guard_target =~ gWI (.cond _ _ _); first | refine WI.cond_t rfl ?_ | refine WI.cond_f rfl ?_)
        | (guard_target =~ gWI (.block _ _); refine WI.block ?_)
        | (guard_target =~ gWI .skip; refine WI.skip ?_)
        | (guard_target =~ gWI (.exit _); refine WI.exit ?_)
        | (guard_target =~ gWI .ret; refine WI.ret ?_)
        | (guard_target =~ gT .normal; refine thn_normal ?_)
        | (guard_target =~ gT (.exit _); refine thn_exit ?_)
        | (guard_target =~ gT .ret; refine thn_ret ?_)
        | (guard_target =~ gI .normal; refine inb_normal ?_)
        | (guard_target =~ gI (.exit _); first | refine inb_hit ?_ | refine inb_miss rfl ?_)
        | (guard_target =~ gI .ret; refine inb_ret ?_)))
    have hne : b1 ≠ w2.heap.size + 1 := by omega
    have hsz := x2.size
    have hge : w.heap.size ≤ b1 := by have := n1.num; omega
    have k3 : W'.heap[w2.heap.size + 1]? = some (.loop r3) := (u'.oth _ (Ne.symm hne)).trans g3
    have u4 := Upd.putObj (o' := .loop { r3 with state := .ready, pending := none }) k3
    refine ⟨rfl, r3, k3, rfl, _, u4.has.at_, rfl, rfl, ⟨(u4.oth b1 hne).trans u'.has.at_⟩, ?_, ⟨bel_upd (bel_upd g4.below u' hge) u4 (by omega)⟩⟩
    rw [u4.oth _ (by omega), u'.oth _ (by omega)]
    exact g2
  · rintro en w3 ⟨v, rfl, u, rfl, r', h1, h2, h3, h4, h5, h6⟩
    have u3 := Upd.putObj (o' := .loop { r' with state := .exhausted }) h1
    refine ⟨v, r', rfl, h1, by rw [h2]; decide, h3, ?_⟩
    have hne : b1 ≠ w2.heap.size + 1 := by omega
    have h4' : Has (w3.putObj (w2.heap.size + 1) (.loop { r' with state := .exhausted })) b1 (.cells #[pt sb] tSL) := ⟨(u3.oth b1 hne).trans h4.at_⟩
    have h5' : (w3.putObj (w2.heap.size + 1) (.loop { r' with state := .exhausted })).heap[w2.heap.size]? = some (.deferred (some [])) := (u3.oth _ (by omega)).trans h5
    have x4 : Ext w (w3.putObj (w2.heap.size + 1) (.loop { r' with state := .exhausted })) := ⟨bel_upd h6.below u3 (by have := x2.size; omega)⟩
    generalize w3.putObj (w2.heap.size + 1) (.loop { r' with state := .exhausted }) = w4 at *
    refine zst ?_
    refine WU.stp rfl rfl rfl (by first | exact stp_box rfl rfl | exact stp_box1 rfl rfl) ?_
    rintro _ w5 ⟨b5, rfl, n5⟩
    refine zst ?_
    have hw2 := x2.size
    have hb5 := n5.num
    have h5x : w5.heap[w2.heap.size]? = some (.deferred (some [])) := (n5.ext.below.block _ (Array.getElem?_eq_some_iff.1 h5').1).trans h5'
    have u6 := Upd.putObj (o' := .deferred none) h5x
    have hlt : w2.heap.size < b5 := by have := (Array.getElem?_eq_some_iff.1 h5').1; omega
    refine ⟨.inl rfl, w2.heap.size, _, rfl, h5x, rfl, b5, rfl, by omega, ⟨(u6.oth b5 (by omega)).trans n5.has.at_⟩, ⟨bel_upd (x4.trans n5.ext).below u6 hw2⟩⟩
end Go.Proofs.YtpiegpegjbmlkaaGreatDoor
namespace Go.Proofs.YtpiegpegjbmlkaaGreatDoor
open Go Go.Kd
set_option maxRecDepth 100000

/-- while types are made only the builder and its list turn -/
theorem mc0 {K : Cfg} {b t : Nat} {cs : Array Value} {i : Nat} (h1 : t ≠ tBU) (h2 : t ≠ tPI) : mc K 0 b t cs i = false := by
  unfold mc
  split
  · simp
  split
  · simp
  split
  · simp
  split
  · simp
  split
  · simp
  · simpa using h2
theorem Has.sta0 {K : Cfg} {w w' : World} {b t : Nat} {cs : Array Value} {fz : Nat × Nat} (x : Sta K 0 w w') (h1 : t ≠ tBU) (h2 : t ≠ tPI) (h : Has w b (.cells cs t fz)) : Has w' b (.cells cs t fz) := by
  obtain ⟨cs', k1, k2⟩ := x.has h2 h
  have : cs' = cs := by
    apply Array.ext_getElem?
    intro i
    exact k2.cell i (mc0 h1 h2)
  rw [← this]; exact k1
theorem Has.staB {K : Cfg} {l : Nat} {w w' : World} {b : Nat} {c0 c1 c2 c3 c4 : Value} (x : Sta K l w w') (h : Has w b (.cells #[c0, c1, c2, c3, c4] tBU)) : ∃ v, Has w' b (.cells #[c0, c1, c2, c3, v] tBU) := by
  obtain ⟨cs', k1, k2⟩ := x.has (by decide) h
  have hs : cs'.size = 5 := k2.size
  have hc : ∀ i, i ≠ 4 → cs'[i]? = (#[c0, c1, c2, c3, c4] : Array Value)[i]? := fun i hi => k2.cell i (by
    unfold mc
    simp only [show ¬ tBU = tTY from by decide, show ¬ tBU = tIF from by decide, show ¬ tBU = tSG from by decide, show ¬ tBU = tNM from by decide, show ¬ tBU = tTN from by decide, if_false, if_true]
    simp [hi])
  refine ⟨cs'[4], ?_⟩
  have : cs' = #[c0, c1, c2, c3, cs'[4]] := by
    apply Array.ext_getElem?
    intro i
    by_cases hi : i = 4
    · subst hi; simp [hs]
    · rw [hc i hi]
      match i, hi with
      | 0, _ | 1, _ | 2, _ | 3, _ => rfl
      | i + 5, _ => rw [Array.getElem?_eq_none (by simp), Array.getElem?_eq_none (by simp)]
  rw [← this]; exact k1

def isIf (t : Ty) : Prop := t.kind = 9 ∨ (t.kind = 0 ∧ t.n = 21)
def IfT (w : World) (b : Nat) (ts : Value) : Prop := ∃ ma mn mc ea en ec, Has w b (.cells (ifc ma mn mc ea en ec ts) tIF)
theorem IfT.sta0 {K : Cfg} {w w' : World} (x : Sta K 0 w w') {b : Nat} {ts : Value} (h : IfT w b ts) : IfT w' b ts := by
  obtain ⟨ma, mn, mc, ea, en, ec, h⟩ := h
  exact ⟨ma, mn, mc, ea, en, ec, Has.sta0 x (by decide) (by decide) h⟩
abbrev IfN (w : World) (b : Nat) : Prop := IfT w b (.pointer none)
def TsE (w : World) (b : Nat) : Prop := ∃ tb v, IfT w b (pt tb) ∧ Has w tb (.cells #[.bool false, .slice none 0 0, v, .bool false] tTS) ∧ AllT w v
def Fresh (w : World) (b : Nat) (t : Ty) : Prop := IfN w b ∨ (TsE w b ∧ (t.kind = 0 ∨ t.elems = []))
theorem Fresh.sta0 {K : Cfg} {w w' : World} (x : Sta K 0 w w') {b : Nat} {t : Ty} (h : Fresh w b t) : Fresh w' b t := by
  rcases h with h | ⟨⟨tb, v, h1, h2, h3⟩, h4⟩
  · exact .inl (h.sta0 x)
  · exact .inr ⟨⟨tb, v, h1.sta0 x, Has.sta x h2, h3.sta x⟩, h4⟩

abbrev Big : Nat := 268435456
/-- a type of the right form, and legal -/
def WfI (D : List De) (u : Ty) : Prop := (∃ j v, j ≤ D.length ∧ Shaped D j v u) ∧ wt u ≤ Big ∧ Legal D u
/-- an interface's block is known: it was built from a type -/
def Kno (K : Cfg) (s : Gs) (w : World) (b : Nat) : Prop := ∃ u, s.g b = some u ∧ isIf u ∧ WfI K.D u ∧ RT K s w s.sl (.iface tPI (pt b)) u
theorem Kno.map {K : Cfg} {s s' : Gs} {w w' : World} {b : Nat} (h : Kno K s w b) (f : ∀ v t, RT K s w s.sl v t → RT K s' w' s'.sl v t) (g : ∀ b u, s.g b = some u → s'.g b = some u) : Kno K s' w' b := by
  obtain ⟨u, h1, h2, h3, h4⟩ := h
  exact ⟨u, g b u h1, h2, h3, f _ _ h4⟩
abbrev tPK : Nat := 162
def pth (n : Int) : ByteArray := if n = 0 then ⟨#[112]⟩ else ⟨#[113]⟩
def PkgOK (s : Gs) (w : World) : Prop := ∀ n, n = 0 ∨ n = 1 → ∃ c x, s.pk n = pt c ∧ Has w c (.cells #[.string (pth n), .string x] tPK)
def IsI (v : Value) : Prop := ∃ T b, v = .iface T (pt b)
structure BI (K : Cfg) (s : Gs) (w : World) (bb : Nat) (made : List Nat) : Prop where
  N : K.N ≤ bb
  nbN : K.N ≤ K.nb
  nbL : K.nb < w.heap.size
  pkg : PkgOK s w
  er : IsI s.er
  nm : ∀ i u, s.nm i = some u → IsI u
  gl : ∀ b u, s.g b = some u → b < w.heap.size
  sll : ∀ d, s.sl d → d < w.heap.size
  kn : ∀ b, b ∈ made → Kno K s w b
  ex : ∃ na nl nc v, Has w bb (.cells #[s.pk 0, s.pk 1, .slice na nl nc, s.er, v] tBU) ∧ Own w K.N tPI 1 v (made.map fun b => [pt b]) ∧
    ∀ i u, s.nm i = some u → ∃ cs, na = some ⟨K.nb, 0, none⟩ ∧ i < nl ∧ Has w K.nb (.cells cs tTY) ∧ cs[i]? = some u
/-- what the builder reads lies as it lay -/
theorem BI.keep {K : Cfg} {s : Gs} {w w' : World} {bb : Nat} {made : List Nat} (h : BI K s w bb made) (hz : w.heap.size ≤ w'.heap.size)
    (hs : ∀ d cs t, w.heap[d]? = some (.cells cs t (0, 0)) → t = tBU ∨ t = tTY ∧ d = K.nb ∨ t = tPK ∨ t = tPI → w'.heap[d]? = w.heap[d]?) (hk : ∀ v t, RT K s w s.sl v t → RT K s w' s.sl v t) : BI K s w' bb made := by
  obtain ⟨na, nl, nc, v, h1, h2, h3⟩ := h.ex
  refine ⟨h.N, h.nbN, Nat.lt_of_lt_of_le h.nbL hz, fun n hn => ?_, h.er, h.nm, fun b u hb => Nat.lt_of_lt_of_le (h.gl b u hb) hz, fun d hd => Nat.lt_of_lt_of_le (h.sll d hd) hz, fun b hb => (h.kn b hb).map hk (fun _ _ h => h), na, nl, nc, v, ⟨(hs _ _ _ h1.at_ (.inl rfl)).trans h1.at_⟩, h2.kept fun k hk => ?_, fun i u hu => ?_⟩
  · obtain ⟨c, x, k1, k2⟩ := h.pkg n hn
    exact ⟨c, x, k1, ⟨(hs _ _ _ k2.at_ (.inr (.inr (.inl rfl)))).trans k2.at_⟩⟩
  · rcases h2.row.2 with ⟨e, _⟩ | ⟨g, cap, cur, e, _, e3, _⟩
    · rw [e] at hk; cases hk
    · rw [e] at hk
      cases hk
      exact hs _ _ _ e3 (.inr (.inr (.inr rfl)))
  · obtain ⟨cs, k1, k2, k3, k4⟩ := h3 i u hu
    exact ⟨cs, k1, k2, ⟨(hs _ _ _ k3.at_ (.inr (.inl ⟨rfl, rfl⟩))).trans k3.at_⟩, k4⟩
theorem BI.ext {K : Cfg} {s : Gs} {w w' : World} {bb : Nat} {made : List Nat} (x : Ext w w') (h : BI K s w bb made) : BI K s w' bb made :=
  h.keep x.size (fun d _ _ hd _ => x.below.block d (Array.getElem?_eq_some_iff.1 hd).1) fun _ _ hr => hr.sta (l := 0) (.of_ext x) (by omega)

structure Gs.gle (s s' : Gs) : Prop where
  nm : s'.nm = s.nm
  er : s'.er = s.er
  pk : s'.pk = s.pk
  g : ∀ b t, s.g b = some t → s'.g b = some t
  sl : ∀ d, s.sl d → s'.sl d
theorem Gs.gle.le {s s' : Gs} (h : s.gle s') : s.le s' := ⟨fun i v hi => by rw [h.nm]; exact hi, h.g, h.er, h.pk⟩
theorem Gs.gle.rfl' (s : Gs) : s.gle s := ⟨rfl, rfl, rfl, fun _ _ h => h, fun _ h => h⟩
theorem Gs.gle.trans {a b c : Gs} (h : a.gle b) (k : b.gle c) : a.gle c := ⟨k.nm.trans h.nm, k.er.trans h.er, k.pk.trans h.pk, fun d t x => k.g d t (h.g d t x), fun d x => k.sl d (h.sl d x)⟩
/-- blocks that nobody appends to any more -/
def Gs.clo (s : Gs) (lo hi : Nat) : Gs := { s with sl := fun d => s.sl d ∨ (lo ≤ d ∧ d < hi) }
theorem Gs.gle_seal (s : Gs) (lo hi : Nat) : s.gle (s.clo lo hi) := ⟨rfl, rfl, rfl, fun _ _ h => h, fun _ h => .inl h⟩
theorem Gs.gle_set {s : Gs} {b : Nat} {t : Ty} (h : s.g b = none) : s.gle (s.set b t) := ⟨rfl, rfl, rfl, fun c u hc => by
  unfold Gs.set
  by_cases hcb : c = b
  · subst hcb; rw [h] at hc; cases hc
  · simp [hcb, hc], fun _ h => h⟩
theorem Gs.set_same (s : Gs) (b : Nat) (t : Ty) : (s.set b t).g b = some t := by simp [Gs.set]
theorem BI.fresh {K : Cfg} {s : Gs} {w : World} {bb : Nat} {made : List Nat} (h : BI K s w bb made) {b : Nat} (hb : w.heap.size ≤ b) : s.g b = none := by
  cases hg : s.g b with
  | none => rfl
  | some u => have := h.gl b u hg; omega
theorem BI.clo {K : Cfg} {s : Gs} {w : World} {bb : Nat} {made : List Nat} (h : BI K s w bb made) (lo : Nat) {hi : Nat} (hh : hi ≤ w.heap.size) : BI K (s.clo lo hi) w bb made :=
  ⟨h.N, h.nbN, h.nbL, h.pkg, h.er, h.nm, h.gl, fun d hd => hd.elim (h.sll d) fun h => by omega, fun b hb => (h.kn b hb).map (fun _ _ hr => (hr.le (Gs.gle_seal s lo hi).le).mono fun d _ hd => .inl hd) (fun _ _ h => h), h.ex⟩
theorem BI.set {K : Cfg} {s : Gs} {w : World} {bb : Nat} {made : List Nat} (h : BI K s w bb made) {b : Nat} {t : Ty} (hn : s.g b = none) (hb : b < w.heap.size) : BI K (s.set b t) w bb made :=
  ⟨h.N, h.nbN, h.nbL, h.pkg, h.er, h.nm, fun c u hc => by
    unfold Gs.set at hc
    by_cases hcb : c = b
    · omega
    · simp only [hcb, if_false] at hc; exact h.gl c u hc, h.sll, fun c hc => (h.kn c hc).map (fun _ _ hr => hr.le (Gs.gle_set hn).le) (Gs.gle_set hn).g, h.ex⟩

/-- what is new among what is known of the blocks -/
def GN (s s' : Gs) (w w' : World) (new : List Nat) : Prop := ∀ b u, s'.g b = some u → s.g b = some u ∨ (w.heap.size ≤ b ∧ b < w'.heap.size ∧ (isIf u → b ∈ new ∧ Fresh w' b u))
theorem GN.rfl' (s : Gs) (w w' : World) : GN s s w w' [] := fun _ _ h => .inl h
theorem GN.trans {K : Cfg} {s1 s2 s3 : Gs} {w1 w2 w3 : World} {n1 n2 : List Nat} (h : GN s1 s2 w1 w2 n1) (k : GN s2 s3 w2 w3 n2) (x1 : w1.heap.size ≤ w2.heap.size) (x : Sta K 0 w2 w3) : GN s1 s3 w1 w3 (n1 ++ n2) := fun b u hb => by
  rcases k b u hb with h2 | ⟨h2, h3, h4⟩
  · rcases h b u h2 with h5 | ⟨h5, h6, h7⟩
    · exact .inl h5
    · exact .inr ⟨h5, Nat.lt_of_lt_of_le h6 x.size, fun hi => ⟨List.mem_append_left _ (h7 hi).1, (h7 hi).2.sta0 x⟩⟩
  · exact .inr ⟨by omega, h3, fun hi => ⟨List.mem_append_right _ (h4 hi).1, (h4 hi).2⟩⟩
theorem GN.ext {s1 s2 : Gs} {w0 w1 w2 w3 : World} {n : List Nat} (h : GN s1 s2 w1 w2 n) (x : Ext w0 w1) (y : Sta ⟨0, 0, []⟩ 0 w2 w3) : GN s1 s2 w0 w3 n := fun b u hb => by
  rcases h b u hb with h5 | ⟨h5, h6, h7⟩
  · exact .inl h5
  · exact .inr ⟨Nat.le_trans x.size h5, Nat.lt_of_lt_of_le h6 y.size, fun hi => ⟨(h7 hi).1, (h7 hi).2.sta0 y⟩⟩
theorem GN.set {s s' : Gs} {w w' : World} {n : List Nat} (h : GN s s' w w' n) {b : Nat} {t : Ty} (hb : w.heap.size ≤ b) (hb' : b < w'.heap.size) (ht : ¬ isIf t) : GN s (s'.set b t) w w' n := fun c u hc => by
  unfold Gs.set at hc
  by_cases hcb : c = b
  · subst hcb
    simp only [if_true, Option.some.injEq] at hc
    subst hc
    exact .inr ⟨hb, hb', fun hi => absurd hi ht⟩
  · simp only [hcb, if_false] at hc
    exact h c u hc

/-- what is there when a type is to be made -/
structure Ctx (D : List De) (K : Cfg) (i : Nat) (s : Gs) (w : World) (bb : Nat) (made : List Nat) : Prop where
  bi : BI K s w bb made
  nms : ∀ (n : Nat) e, D[n]? = some e → (e.al = false ∨ n < i) → ∃ u, s.nm n = some u
  prp : Prp w
  gN : gP < K.N
  dk : K.D = D
  il : i ≤ D.length
theorem Ctx.ext {D : List De} {K : Cfg} {i : Nat} {s : Gs} {w w' : World} {bb : Nat} {made : List Nat} (x : Ext w w') (h : Ctx D K i s w bb made) : Ctx D K i s w' bb made := ⟨h.bi.ext x, h.nms, h.prp.ext x, h.gN, h.dk, h.il⟩
/-- what has been made; n: how many interfaces at most -/
structure Made (K : Cfg) (s : Gs) (w : World) (bb : Nat) (made : List Nat) (n : Nat) (s' : Gs) (new : List Nat) (w' : World) : Prop where
  gle : s.gle s'
  sta : Sta K 0 w w'
  bi : BI K s' w' bb (made ++ new)
  len : new.length ≤ n
  gn : GN s s' w w' new
  sn : ∀ d, s'.sl d → s.sl d ∨ (w.heap.size ≤ d ∧ d < w'.heap.size)
theorem Made.rfl' {K : Cfg} {s : Gs} {w w' : World} {bb : Nat} {made : List Nat} (h : BI K s w bb made) (x : Ext w w') : Made K s w bb made 0 s [] w' :=
  ⟨.rfl' s, .of_ext x, by rw [List.append_nil]; exact h.ext x, Nat.le_refl _, GN.rfl' s w w', fun _ h => .inl h⟩
theorem Made.trans {K : Cfg} {s1 s2 s3 : Gs} {w1 w2 w3 : World} {bb : Nat} {made n1 n2 : List Nat} {m1 m2 : Nat} (h : Made K s1 w1 bb made m1 s2 n1 w2) (k : Made K s2 w2 bb (made ++ n1) m2 s3 n2 w3) : Made K s1 w1 bb made (m1 + m2) s3 (n1 ++ n2) w3 :=
  ⟨h.gle.trans k.gle, h.sta.trans k.sta, by rw [← List.append_assoc]; exact k.bi, by rw [List.length_append]; have := h.len; have := k.len; omega, h.gn.trans k.gn h.sta.size k.sta, fun d hd => by
    have h1 := h.sta.size
    have h2 := k.sta.size
    rcases k.sn d hd with h3 | h3
    · exact (h.sn d h3).imp id fun h4 => by omega
    · exact .inr (by omega)⟩
theorem Made.le {K : Cfg} {s1 s2 : Gs} {w1 w2 : World} {bb : Nat} {made n1 : List Nat} {m1 m2 : Nat} (h : Made K s1 w1 bb made m1 s2 n1 w2) (hm : m1 ≤ m2) : Made K s1 w1 bb made m2 s2 n1 w2 := ⟨h.gle, h.sta, h.bi, Nat.le_trans h.len hm, h.gn, h.sn⟩
theorem Made.before {K : Cfg} {s1 s2 : Gs} {w0 w1 w2 : World} {bb : Nat} {made n1 : List Nat} {m : Nat} (h : Made K s1 w1 bb made m s2 n1 w2) (x : Ext w0 w1) : Made K s1 w0 bb made m s2 n1 w2 :=
  ⟨h.gle, (Sta.of_ext x).trans h.sta, h.bi, h.len, h.gn.ext x (.rfl' ..), fun d hd => (h.sn d hd).imp id fun h4 => ⟨Nat.le_trans x.size h4.1, h4.2⟩⟩
theorem Made.ext {K : Cfg} {s1 s2 : Gs} {w1 w2 w3 : World} {bb : Nat} {made n1 : List Nat} {m : Nat} (h : Made K s1 w1 bb made m s2 n1 w2) (x : Ext w2 w3) : Made K s1 w1 bb made m s2 n1 w3 :=
  ⟨h.gle, h.sta.ext x, h.bi.ext x, h.len, h.gn.ext (Ext.rfl' _) (.of_ext x), fun d hd => (h.sn d hd).imp id fun h4 => ⟨h4.1, Nat.lt_of_lt_of_le h4.2 x.size⟩⟩
/-- one more block, of no interface -/
theorem Made.set {K : Cfg} {s1 s2 : Gs} {w1 w2 : World} {bb : Nat} {made n1 : List Nat} {m : Nat} (h : Made K s1 w1 bb made m s2 n1 w2) {b : Nat} {t : Ty} (hb : w1.heap.size ≤ b) (hn : s2.g b = none) (hb' : b < w2.heap.size) (ht : ¬ isIf t) :
    Made K s1 w1 bb made m (s2.set b t) n1 w2 := ⟨h.gle.trans (Gs.gle_set hn), h.sta, h.bi.set hn hb', h.len, h.gn.set hb hb' ht, h.sn⟩
theorem Ctx.made {D : List De} {K : Cfg} {i : Nat} {s s' : Gs} {w w' : World} {bb : Nat} {made new : List Nat} {n : Nat} (h : Ctx D K i s w bb made) (m : Made K s w bb made n s' new w') : Ctx D K i s' w' bb (made ++ new) :=
  ⟨m.bi, fun k e he hk => by rw [m.gle.nm]; exact h.nms k e he hk, h.prp.sta m.sta h.gN, h.gN, h.dk, h.il⟩
/-- a type is made -/
def Res (K : Cfg) (s : Gs) (w : World) (bb : Nat) (made : List Nat) (t : Ty) (r : Value) (w' : World) : Prop :=
  ∃ s' new, Made K s w bb made (wt t) s' new w' ∧ RT K s' w' (fun b => w.heap.size ≤ b) r t ∧ IsI r
/-- .. from a world that came a little later -/
theorem Res.before {K : Cfg} {s : Gs} {w0 w w' : World} {bb : Nat} {made : List Nat} {t : Ty} {r : Value} (x : Ext w0 w) (h : Res K s w bb made t r w') : Res K s w0 bb made t r w' := by
  obtain ⟨s', new, h1, h2, h3⟩ := h
  exact ⟨s', new, h1.before x, h2.mono fun b _ hb => Nat.le_trans x.size hb, h3⟩
/-- what is asked of a type -/
structure Ask (D : List De) (i : Nat) (w : World) (K : Cfg) (p : Nat → Prop) (cs : List Value) (t : Ty) : Prop where
  v : TyV w p cs t
  p : ∀ b, p b → b < K.N ∧ b < w.heap.size
  sh : ∃ v, Shaped D i v t
  lg : Legal D t
theorem Ask.ext {D : List De} {i : Nat} {w w' : World} {K : Cfg} {p : Nat → Prop} {cs : List Value} {t : Ty} (x : Ext w w') (h : Ask D i w K p cs t) : Ask D i w' K p cs t := ⟨h.v.ext x, fun b hb => ⟨(h.p b hb).1, Nat.lt_of_lt_of_le (h.p b hb).2 x.size⟩, h.sh, h.lg⟩
theorem Ask.sta {D : List De} {i l : Nat} {w w' : World} {K : Cfg} {p : Nat → Prop} {cs : List Value} {t : Ty} (x : Sta K l w w') (h : Ask D i w K p cs t) : Ask D i w' K p cs t :=
  ⟨h.v.same (x.olds h.p), fun b hb => ⟨(h.p b hb).1, Nat.lt_of_lt_of_le (h.p b hb).2 x.size⟩, h.sh, h.lg⟩
/-- the contract of typ at a type -/
def TypC (D : List De) (K : Cfg) (i : Nat) (t : Ty) : Prop := ∀ (s : Gs) (w : World) (bb : Nat) (made : List Nat) (p : Nat → Prop) (cs : List Value), Ctx D K i s w bb made → Ask D i w K p cs t → wt t + made.length ≤ Big →
  Calls Tryz.prog 79 #[pt bb, .agg cs.toArray] w (Ret (Res K s w bb made t))
end Go.Proofs.YtpiegpegjbmlkaaGreatDoor
namespace Go.Proofs.YtpiegpegjbmlkaaGreatDoor
open Go Go.Kd
set_option maxRecDepth 100000

theorem Own.ne {w : World} {base el sz : Nat} {v : Value} {ls : List (List Value)} (h : Own w base el sz v ls) {b t : Nat} {cs : Array Value} {fz : Nat × Nat} (hb : Has w b (.cells cs t fz)) (ht : t ≠ el) : ∀ k, v.ownBlock = some k → k ≠ b := fun k hk e => by
  rcases h.row.2 with ⟨h1, _⟩ | ⟨g, cap, cur, h1, _, h3, _⟩
  · rw [h1] at hk; cases hk
  · rw [h1] at hk
    cases hk
    subst e
    have := h3.symm.trans hb.at_
    simp at this
    exact ht this.2.1.symm
theorem mok_made {K : Cfg} {l b : Nat} {c0 c1 c2 c3 c4 c5 : Value} : MOk K l b tBU #[c0, c1, c2, c3, c4] #[c0, c1, c2, c3, c5] := ⟨rfl, fun i hi => by
  have h4 : i ≠ 4 := fun e => by
    subst e
    unfold mc at hi
    simp only [show ¬ tBU = tTY from by decide, show ¬ tBU = tIF from by decide, show ¬ tBU = tSG from by decide, show ¬ tBU = tNM from by decide, show ¬ tBU = tTN from by decide, if_false, if_true] at hi
    simp at hi
  match i, h4 with
  | 0, _ | 1, _ | 2, _ | 3, _ => rfl
  | i + 5, _ => rfl⟩
/-- one more interface in the builder's list -/
theorem BI.push {K : Cfg} {s : Gs} {w w2 w3 : World} {bb : Nat} {made : List Nat} (h : BI K s w bb made) {b : Nat} (hkb : Kno K s w b) {na : Option Addr} {nl nc : Nat} {v v' : Value} (h1 : Has w bb (.cells #[s.pk 0, s.pk 1, .slice na nl nc, s.er, v] tBU)) (h2 : Own w K.N tPI 1 v (made.map fun b => [pt b]))
    (h3 : ∀ i u, s.nm i = some u → ∃ cs, na = some ⟨K.nb, 0, none⟩ ∧ i < nl ∧ Has w K.nb (.cells cs tTY) ∧ cs[i]? = some u)
    (a : App w w2 v) (h4 : Own w2 K.N tPI 1 v' (made.map (fun b => [pt b]) ++ [[pt b]])) (u : Upd w2 bb (.cells #[s.pk 0, s.pk 1, .slice na nl nc, s.er, v'] tBU) w3) : BI K s w3 bb (made ++ [b]) ∧ Sta K 0 w w3 := by
  have k2 : Has w2 bb (.cells #[s.pk 0, s.pk 1, .slice na nl nc, s.er, v] tBU) := App.keep a h1 (Own.ne h2 h1 (by decide))
  have hst : Sta K 0 w w3 := (Sta.of_app a h2 (Nat.le_refl _)).trans (.of_upd k2 u h.N mok_made)
  refine ⟨⟨h.N, h.nbN, Nat.lt_of_lt_of_le h.nbL hst.size, fun n hn => ?_, h.er, h.nm, fun c x hc => Nat.lt_of_lt_of_le (h.gl c x hc) hst.size, fun d hd => Nat.lt_of_lt_of_le (h.sll d hd) hst.size, fun c hc => (show Kno K s w c from (List.mem_append.1 hc).elim (h.kn c) fun h => (List.mem_singleton.1 h) ▸ hkb).map (fun _ _ hr => hr.sta hst (by omega)) (fun _ _ h => h), na, nl, nc, v', u.has, ?_, fun i x hx => ?_⟩, hst⟩
  · obtain ⟨c, x, k1, k2⟩ := h.pkg n hn
    exact ⟨c, x, k1, Has.sta hst k2⟩
  · rw [List.map_append, List.map_singleton]
    exact h4.upd u (Own.ne h4 k2 (by decide))
  · obtain ⟨cs, k1, k2, k3, k4⟩ := h3 i x hx
    exact ⟨cs, k1, k2, Has.sta0 hst (by decide) (by decide) k3, k4⟩
theorem Fresh.tse {w : World} {b tb : Nat} {v : Value} {t : Ty} (h1 : Has w b (.cells (ifc none 0 0 none 0 0 (pt tb)) tIF)) (h2 : Has w tb (.cells #[.bool false, .slice none 0 0, v, .bool false] tTS)) (h3 : AllT w v) (ht : t.kind = 0 ∨ t.elems = []) : Fresh w b t :=
  .inr ⟨⟨tb, v, ⟨_, _, _, _, _, _, h1⟩, h2, h3⟩, ht⟩
theorem frow0 (w : World) (fb : Nat → Nat) (pk : Nat → Value) (nm path : Nat → ByteArray) (vv : Nat → Value) : FRow w 0 fb pk nm path vv := ⟨fun i hi => by omega, fun i hi => by omega, fun i hi => by omega, fun i j hi => by omega⟩

set_option maxHeartbeats 4000000 in
theorem c_basic (D : List De) (K : Cfg) (i : Nat) (s : Gs) (w : World) (bb : Nat) (made : List Nat) (t : Ty) (hx : Ctx D K i s w bb made) (hk : t.kind = 0) (h0 : 0 ≤ t.n) (h1 : t.n < 22) (hb : made.length < 1073741824) (hwf : WfI D t) :
    Calls Tryz.prog 112 #[pt bb, .int .i64 t.n] w (Ret (Res K s w bb made t)) := by
  obtain ⟨na, nl, nc, vm, hbb, how, hnm⟩ := hx.bi.ex
  have hwt := wt_pos t
  have fin : ∀ (n : Int), t.n = n → n < 20 → ∀ (b : Nat) (i : Int) (nm : ByteArray) (w' : World), w.heap.size ≤ b → Has w' b (.cells #[.int .i64 (bk n), .int .i64 (infK (bk n)), .string nm] 139) → Ext w w' → Res K s w bb made t (.iface 109 (pt b)) w' := fun n hn hn2 b i nm w' hge hhas x => by
    subst hn
    have hnone := hx.bi.fresh hge
    have hni : ¬ isIf t := by
      rintro (h | h)
      · omega
      · omega
    exact ⟨_, _, ((Made.rfl' hx.bi x).le (by omega)).set hge hnone hhas.lt hni, .basic t b i nm hk h0 hn2 hge hhas (Gs.set_same ..), _, _, rfl⟩
  generalize hn : t.n = n at *
  by_cases h21 : n = 21
  · subst h21
    refine W.enter (args := [pt bb, .int .i64 21]) Tryz.func112 rfl Tryz.ntmps112 rfl rfl ?_
    refine zst ?_
    refine WU.stp rfl rfl rfl (stp_call rfl (c_NewInterfaceType K none none 0 0 0 0 (fun _ => 0) (fun _ => 0) (fun _ => .nilIface) (fun _ => eB) (fun _ => eB) (fun _ => .nilIface) (fun _ => .nilIface) (fun _ => false) w hx.prp hx.gN (fun a ha => by cases ha) (fun i hi => by omega) (frow0 ..) (fun i hi => by omega) (fun i hi => by omega) (by omega))) ?_
    rintro _ w1 ⟨b, rfl, hge, hlt, ⟨-, -, ⟨tb, v, k1, k2, k3⟩, x1⟩ | ⟨hno, _⟩⟩
    · have hbb1 := hbb.ext' x1
      have how1 := how.ext x1
      refine zst ?_
      refine WU.stp rfl rfl rfl (stp_buildSlice rfl rfl rfl rfl rfl) ?_
      rintro _ w2 ⟨b2, rfl, n2⟩
      have hbb2 := hbb1.ext' n2.ext
      have how2 := how1.ext n2.ext
      refine WU.stp rfl rfl rfl (stp_append1 rfl rfl how2 (Cells.has n2.has) rfl rfl (by omega) (by simp [Value.oneCell']) (by rw [List.length_map]; omega) (Nat.le_trans (Nat.le_trans hx.bi.N (Nat.le_of_lt hbb.lt)) (Nat.le_trans x1.size n2.ext.size))) ?_
      rintro v' w3 ⟨o3, a3, _⟩
      have hbb3 : Has w3 bb (.cells #[s.pk 0, s.pk 1, .slice na nl nc, s.er, vm] tBU) := App.keep a3 hbb2 (Own.ne how2 hbb2 (by decide))
      obtain ⟨sa, scp, hsh, _, _⟩ := o3.shape
      subst hsh
      refine zst ?_
      refine WU.stp0 rfl rfl (stp_store_cell rfl rfl rfl rfl) ?_
      rintro _ w4 u4
      refine zst ?_
      have x2 : Ext w w2 := x1.trans n2.ext
      have hnone := hx.bi.fresh hge
      have hgs := (Gs.gle_set (t := t) hnone).trans (Gs.gle_seal (s.set b t) w.heap.size w2.heap.size)
      have hkb : Kno K ((s.set b t).clo w.heap.size w2.heap.size) w2 b := ⟨t, Gs.set_same .., .inr ⟨hk, hn⟩, by rw [hx.dk]; exact hwf, .any t b hk hn (.inr ⟨hge, Nat.lt_of_lt_of_le hlt n2.ext.size⟩) ⟨_, k1.ext' n2.ext⟩ (Gs.set_same ..)⟩
      obtain ⟨p1, p2⟩ := (((hx.bi.ext x2).set (t := t) hnone (Nat.lt_of_lt_of_le hlt n2.ext.size)).clo w.heap.size (Nat.le_refl _)).push hkb hbb2 how2 (fun i u hu => by
        obtain ⟨cs, q1, q2, q3, q4⟩ := hnm i u hu
        exact ⟨cs, q1, q2, q3.ext' x2, q4⟩) a3 o3 u4
      have hge' : w.heap.size ≤ b := hge
      have kb : Has w4 b (.cells (ifc none 0 0 none 0 0 (pt tb)) tIF) := Has.sta0 p2 (by decide) (by decide) (k1.ext' n2.ext)
      refine fin1 (.inl rfl) rfl rfl ⟨(s.set b t).clo w.heap.size w2.heap.size, [b], ⟨hgs, (Sta.of_ext x2).trans p2, p1, by rw [List.length_singleton]; exact hwt, fun c u hc => ?_, fun d hd => hd.imp id fun h => ⟨h.1, Nat.lt_of_lt_of_le h.2 p2.size⟩⟩, .any t b hk hn hge ⟨_, kb⟩ (Gs.set_same ..), _, _, rfl⟩
      replace hc : (if c = b then some t else s.g c) = some u := hc
      by_cases hcb : c = b
      · subst hcb
        simp only [if_true, Option.some.injEq] at hc
        subst hc
        exact .inr ⟨hge, kb.lt, fun _ => ⟨List.mem_singleton_self _, .tse kb (Has.sta p2 (k2.ext' n2.ext)) ((k3.ext n2.ext).sta p2) (.inl hk)⟩⟩
      · simp only [hcb, if_false] at hc
        exact .inl hc
    · exact absurd ⟨rfl, rfl⟩ hno
  by_cases h20 : n = 20
  · subst h20
    obtain ⟨T, eb, her⟩ := hx.bi.er
    have hbb' := hbb
    rw [her] at hbb'
    refine W.enter (args := [pt bb, .int .i64 20]) Tryz.func112 rfl Tryz.ntmps112 rfl rfl ?_
    refine zst ?_
    exact fin1 (.inl rfl) rfl rfl ⟨s, [], (Made.rfl' hx.bi (Ext.rfl' w)).le (by omega), by rw [← her]; exact .error t hk hn, _, _, rfl⟩
  have h19 : n < 20 := by omega
  clear h1 h21 h20 hbb how hnm
  have bas : ∀ (k : Int), 1 ≤ k ∧ k ≤ 18 → k = bk n → ∀ v w', (∃ b, ∃ _ : Int, ∃ nm, v = pt b ∧ w.heap.size ≤ b ∧ Has w' b (.cells #[.int .i64 k, .int .i64 (infK k), .string nm] 139) ∧ Ext w w') → Res K s w bb made t (.iface 109 v) w' := fun k _ hk v w' ⟨b, i, nm, h1, h2, h3, h4⟩ => by
    subst hk h1
    exact fin n rfl h19 b i nm w' h2 h3 h4
  clear fin
  obtain ⟨m, rfl⟩ := Int.eq_ofNat_of_zero_le h0
  clear hn h0
  match m, h19, bas with
  | 0, _, bas =>
    refine W.enter (args := [pt bb, .int .i64 0]) Tryz.func112 rfl Tryz.ntmps112 rfl rfl ?_
    refine zst ?_
    refine WU.stp rfl rfl rfl (stp_call rfl (c_Typ 1 w (by decide))) ?_
    rintro _ w' ⟨b, i, nm, rfl, g1, g2, g3⟩
    refine zst ?_
    exact fin1 (.inl rfl) rfl rfl (bas 1 (by decide) (by decide) _ w' ⟨b, i, nm, rfl, g1, g2, g3⟩)
  | 1, _, bas =>
    refine W.enter (args := [pt bb, .int .i64 1]) Tryz.func112 rfl Tryz.ntmps112 rfl rfl ?_
    refine zst ?_
    refine WU.stp rfl rfl rfl (stp_call rfl (c_Typ 2 w (by decide))) ?_
    rintro _ w' ⟨b, i, nm, rfl, g1, g2, g3⟩
    refine zst ?_
    exact fin1 (.inl rfl) rfl rfl (bas 2 (by decide) (by decide) _ w' ⟨b, i, nm, rfl, g1, g2, g3⟩)
  | 2, _, bas =>
    refine W.enter (args := [pt bb, .int .i64 2]) Tryz.func112 rfl Tryz.ntmps112 rfl rfl ?_
    refine zst ?_
    refine WU.stp rfl rfl rfl (stp_call rfl (c_Typ 3 w (by decide))) ?_
    rintro _ w' ⟨b, i, nm, rfl, g1, g2, g3⟩
    refine zst ?_
    exact fin1 (.inl rfl) rfl rfl (bas 3 (by decide) (by decide) _ w' ⟨b, i, nm, rfl, g1, g2, g3⟩)
  | 3, _, bas =>
    refine W.enter (args := [pt bb, .int .i64 3]) Tryz.func112 rfl Tryz.ntmps112 rfl rfl ?_
    refine zst ?_
    refine WU.stp rfl rfl rfl (stp_call rfl (c_Typ 4 w (by decide))) ?_
    rintro _ w' ⟨b, i, nm, rfl, g1, g2, g3⟩
    refine zst ?_
    exact fin1 (.inl rfl) rfl rfl (bas 4 (by decide) (by decide) _ w' ⟨b, i, nm, rfl, g1, g2, g3⟩)
  | 4, _, bas =>
    refine W.enter (args := [pt bb, .int .i64 4]) Tryz.func112 rfl Tryz.ntmps112 rfl rfl ?_
    refine zst ?_
    refine WU.stp rfl rfl rfl (stp_call rfl (c_Typ 5 w (by decide))) ?_
    rintro _ w' ⟨b, i, nm, rfl, g1, g2, g3⟩
    refine zst ?_
    exact fin1 (.inl rfl) rfl rfl (bas 5 (by decide) (by decide) _ w' ⟨b, i, nm, rfl, g1, g2, g3⟩)
  | 5, _, bas =>
    refine W.enter (args := [pt bb, .int .i64 5]) Tryz.func112 rfl Tryz.ntmps112 rfl rfl ?_
    refine zst ?_
    refine WU.stp rfl rfl rfl (stp_call rfl (c_Typ 6 w (by decide))) ?_
    rintro _ w' ⟨b, i, nm, rfl, g1, g2, g3⟩
    refine zst ?_
    exact fin1 (.inl rfl) rfl rfl (bas 6 (by decide) (by decide) _ w' ⟨b, i, nm, rfl, g1, g2, g3⟩)
  | 6, _, bas =>
    refine W.enter (args := [pt bb, .int .i64 6]) Tryz.func112 rfl Tryz.ntmps112 rfl rfl ?_
    refine zst ?_
    refine WU.stp rfl rfl rfl (stp_call rfl (c_Typ 7 w (by decide))) ?_
    rintro _ w' ⟨b, i, nm, rfl, g1, g2, g3⟩
    refine zst ?_
    exact fin1 (.inl rfl) rfl rfl (bas 7 (by decide) (by decide) _ w' ⟨b, i, nm, rfl, g1, g2, g3⟩)
  | 7, _, bas =>
    refine W.enter (args := [pt bb, .int .i64 7]) Tryz.func112 rfl Tryz.ntmps112 rfl rfl ?_
    refine zst ?_
    refine WU.stp rfl rfl rfl (stp_call rfl (c_Typ 8 w (by decide))) ?_
    rintro _ w' ⟨b, i, nm, rfl, g1, g2, g3⟩
    refine zst ?_
    exact fin1 (.inl rfl) rfl rfl (bas 8 (by decide) (by decide) _ w' ⟨b, i, nm, rfl, g1, g2, g3⟩)
  | 8, _, bas =>
    refine W.enter (args := [pt bb, .int .i64 8]) Tryz.func112 rfl Tryz.ntmps112 rfl rfl ?_
    refine zst ?_
    refine WU.stp rfl rfl rfl (stp_call rfl (c_Typ 9 w (by decide))) ?_
    rintro _ w' ⟨b, i, nm, rfl, g1, g2, g3⟩
    refine zst ?_
    exact fin1 (.inl rfl) rfl rfl (bas 9 (by decide) (by decide) _ w' ⟨b, i, nm, rfl, g1, g2, g3⟩)
  | 9, _, bas =>
    refine W.enter (args := [pt bb, .int .i64 9]) Tryz.func112 rfl Tryz.ntmps112 rfl rfl ?_
    refine zst ?_
    refine WU.stp rfl rfl rfl (stp_call rfl (c_Typ 10 w (by decide))) ?_
    rintro _ w' ⟨b, i, nm, rfl, g1, g2, g3⟩
    refine zst ?_
    exact fin1 (.inl rfl) rfl rfl (bas 10 (by decide) (by decide) _ w' ⟨b, i, nm, rfl, g1, g2, g3⟩)
  | 10, _, bas =>
    refine W.enter (args := [pt bb, .int .i64 10]) Tryz.func112 rfl Tryz.ntmps112 rfl rfl ?_
    refine zst ?_
    refine WU.stp rfl rfl rfl (stp_call rfl (c_Typ 11 w (by decide))) ?_
    rintro _ w' ⟨b, i, nm, rfl, g1, g2, g3⟩
    refine zst ?_
    exact fin1 (.inl rfl) rfl rfl (bas 11 (by decide) (by decide) _ w' ⟨b, i, nm, rfl, g1, g2, g3⟩)
  | 11, _, bas =>
    refine W.enter (args := [pt bb, .int .i64 11]) Tryz.func112 rfl Tryz.ntmps112 rfl rfl ?_
    refine zst ?_
    refine WU.stp rfl rfl rfl (stp_call rfl (c_Typ 12 w (by decide))) ?_
    rintro _ w' ⟨b, i, nm, rfl, g1, g2, g3⟩
    refine zst ?_
    exact fin1 (.inl rfl) rfl rfl (bas 12 (by decide) (by decide) _ w' ⟨b, i, nm, rfl, g1, g2, g3⟩)
  | 12, _, bas =>
    refine W.enter (args := [pt bb, .int .i64 12]) Tryz.func112 rfl Tryz.ntmps112 rfl rfl ?_
    refine zst ?_
    refine WU.stp rfl rfl rfl (stp_call rfl (c_Typ 13 w (by decide))) ?_
    rintro _ w' ⟨b, i, nm, rfl, g1, g2, g3⟩
    refine zst ?_
    exact fin1 (.inl rfl) rfl rfl (bas 13 (by decide) (by decide) _ w' ⟨b, i, nm, rfl, g1, g2, g3⟩)
  | 13, _, bas =>
    refine W.enter (args := [pt bb, .int .i64 13]) Tryz.func112 rfl Tryz.ntmps112 rfl rfl ?_
    refine zst ?_
    refine WU.stp rfl rfl rfl (stp_call rfl (c_Typ 14 w (by decide))) ?_
    rintro _ w' ⟨b, i, nm, rfl, g1, g2, g3⟩
    refine zst ?_
    exact fin1 (.inl rfl) rfl rfl (bas 14 (by decide) (by decide) _ w' ⟨b, i, nm, rfl, g1, g2, g3⟩)
  | 14, _, bas =>
    refine W.enter (args := [pt bb, .int .i64 14]) Tryz.func112 rfl Tryz.ntmps112 rfl rfl ?_
    refine zst ?_
    refine WU.stp rfl rfl rfl (stp_call rfl (c_Typ 15 w (by decide))) ?_
    rintro _ w' ⟨b, i, nm, rfl, g1, g2, g3⟩
    refine zst ?_
    exact fin1 (.inl rfl) rfl rfl (bas 15 (by decide) (by decide) _ w' ⟨b, i, nm, rfl, g1, g2, g3⟩)
  | 15, _, bas =>
    refine W.enter (args := [pt bb, .int .i64 15]) Tryz.func112 rfl Tryz.ntmps112 rfl rfl ?_
    refine zst ?_
    refine WU.stp rfl rfl rfl (stp_call rfl (c_Typ 16 w (by decide))) ?_
    rintro _ w' ⟨b, i, nm, rfl, g1, g2, g3⟩
    refine zst ?_
    exact fin1 (.inl rfl) rfl rfl (bas 16 (by decide) (by decide) _ w' ⟨b, i, nm, rfl, g1, g2, g3⟩)
  | 16, _, bas =>
    refine W.enter (args := [pt bb, .int .i64 16]) Tryz.func112 rfl Tryz.ntmps112 rfl rfl ?_
    refine zst ?_
    refine WU.stp rfl rfl rfl (stp_call rfl (c_Typ 17 w (by decide))) ?_
    rintro _ w' ⟨b, i, nm, rfl, g1, g2, g3⟩
    refine zst ?_
    exact fin1 (.inl rfl) rfl rfl (bas 17 (by decide) (by decide) _ w' ⟨b, i, nm, rfl, g1, g2, g3⟩)
  | 17, _, bas =>
    refine W.enter (args := [pt bb, .int .i64 17]) Tryz.func112 rfl Tryz.ntmps112 rfl rfl ?_
    refine zst ?_
    refine WU.stp rfl rfl rfl (stp_call rfl (c_Typ 18 w (by decide))) ?_
    rintro _ w' ⟨b, i, nm, rfl, g1, g2, g3⟩
    refine zst ?_
    exact fin1 (.inl rfl) rfl rfl (bas 18 (by decide) (by decide) _ w' ⟨b, i, nm, rfl, g1, g2, g3⟩)
  | 18, _, bas =>
    refine W.enter (args := [pt bb, .int .i64 18]) Tryz.func112 rfl Tryz.ntmps112 rfl rfl ?_
    refine zst ?_
    refine WU.stp rfl rfl rfl (stp_call rfl (c_Typ 8 w (by decide))) ?_
    rintro _ w' ⟨b, i, nm, rfl, g1, g2, g3⟩
    refine zst ?_
    exact fin1 (.inl rfl) rfl rfl (bas 8 (by decide) (by decide) _ w' ⟨b, i, nm, rfl, g1, g2, g3⟩)
  | 19, _, bas =>
    refine W.enter (args := [pt bb, .int .i64 19]) Tryz.func112 rfl Tryz.ntmps112 rfl rfl ?_
    refine zst ?_
    refine WU.stp rfl rfl rfl (stp_call rfl (c_Typ 5 w (by decide))) ?_
    rintro _ w' ⟨b, i, nm, rfl, g1, g2, g3⟩
    refine zst ?_
    exact fin1 (.inl rfl) rfl rfl (bas 5 (by decide) (by decide) _ w' ⟨b, i, nm, rfl, g1, g2, g3⟩)
  | m + 20, h, _ => exact absurd h (by omega)
end Go.Proofs.YtpiegpegjbmlkaaGreatDoor
namespace Go.Proofs.YtpiegpegjbmlkaaGreatDoor
open Go Go.Kd
set_option maxRecDepth 100000

theorem Cells.sameB {w w' : World} {b o : Nat} {cs : List Value} (hs : w'.heap[b]? = w.heap[b]?) (h : Cells w b o cs) : Cells w' b o cs := fun j v hv => by
  have := h j v hv
  unfold World.cell? at this ⊢
  rw [hs]; exact this
theorem Ask.open {D : List De} {i : Nat} {w : World} {K : Cfg} {p : Nat → Prop} {cs : List Value} {t : Ty} (h : Ask D i w K p cs t) : ∃ a cp, cs = tyc t a cp ∧ TysV w p a cp t.elems := h.v.tys
/-- an element of a type -/
theorem Ask.el {D : List De} {i : Nat} {w : World} {K : Cfg} {p : Nat → Prop} {cs : List Value} {t : Ty} (h : Ask D i w K p cs t) {a : Option Addr} {cp : Nat} (hv : TysV w p a cp t.elems) {j : Nat} {e : Ty} (he : t.elems[j]? = some e) :
    ∃ b o a3 c3, a = some ⟨b, o, none⟩ ∧ p b ∧ Cells w b (o + j * 8) (tyc e a3 c3) ∧ Ask D i w K p (tyc e a3 c3) e := by
  obtain ⟨b, o, a3, c3, h1, h2, h3, h4⟩ := hv.next he
  obtain ⟨v, hs⟩ := h.sh
  exact ⟨b, o, a3, c3, h1, h2, h3, .of_tys h4, h.p, ⟨_, hs.el j e he⟩, h.lg.el j e he⟩
theorem RT.ext {K : Cfg} {s : Gs} {w w' : World} {p : Nat → Prop} (x : Ext w w') {v : Value} {t : Ty} (h : RT K s w p v t) : RT K s w' p v t := h.sta (l := 0) (.of_ext x) (by omega)
theorem len_one {l : List Ty} (h : (l.length : Int) = 1) : ∃ e, l = [e] := by
  match l, h with
  | [e], _ => exact ⟨e, rfl⟩
theorem len_two {l : List Ty} (h : (l.length : Int) = 2) : ∃ e f, l = [e, f] := by
  match l, h with
  | [e, f], _ => exact ⟨e, f, rfl⟩
theorem wt_one {t e : Ty} (h : t.elems = [e]) : wt e < wt t := wt_el (t := t) (i := 0) (by rw [h]; rfl)
theorem wt_two {t e f : Ty} (h : t.elems = [e, f]) : wt e + wt f < wt t := by
  rw [wt_eq t, h]; simp only [wts]; omega

set_option maxHeartbeats 1000000 in
theorem typ_named (D : List De) (K : Cfg) (i : Nat) (t : Ty) (hk : t.kind = 1) : TypC D K i t := by
  intro s w bb made p cs hx ha hb
  obtain ⟨a, cp, rfl, hv⟩ := ha.open
  obtain ⟨v, hs⟩ := ha.sh
  have hsh := hs.shape
  have h0 := hsh.n0 (by rw [hk]; simp [limitN])
  have h1 : t.n < D.length := by have := hsh.n1 (by rw [hk]; simp [limitN]); rw [hk] at this; simpa [limitN] using this
  obtain ⟨na, nl, nc, vm, hbb, how, hnm⟩ := hx.bi.ex
  obtain ⟨n, hn⟩ := Int.eq_ofNat_of_zero_le h0
  have hlt : n < D.length := by omega
  obtain ⟨u, hu⟩ := hx.nms n D[n] (List.getElem?_eq_getElem hlt) (by
    cases hal : D[n].al
    · exact .inl rfl
    · right
      have : isAl D t = true := by
        unfold isAl decl
        rw [if_pos hk, hn, Int.toNat_natCast, List.getElem?_eq_getElem hlt]
        exact hal
      have := hsh.nm hk (.inr this)
      omega)
  obtain ⟨T, ub, rfl⟩ := hx.bi.nm n u hu
  obtain ⟨ncs, rfl, hnl, hnb, hnc⟩ := hnm n _ hu
  have hRT : RT K s w (fun b => w.heap.size ≤ b) (.iface T (pt ub)) t := .named t _ hk (by rw [hn, Int.toNat_natCast]; exact hu)
  unfold tyc
  rw [hk, hn]
  refine W.enter (args := [pt bb, .agg (tyl 1 n t.count t.vr (.slice a t.elems.length cp) t.name t.tag t.emb).toArray]) Tryz.func79 rfl Tryz.ntmps79 rfl rfl ?_
  refine zst ?_
  refine WU.stp rfl rfl rfl (by first | exact stp_box rfl rfl | exact stp_box1 rfl rfl) ?_
  rintro _ w1 ⟨b1, rfl, n1⟩
  refine zst ?_
  refine W.regD [(0, .q), (1, .q), (2, .q), (3, .q), (4, .q), (5, .q), (6, .q), (7, .q), (8, .q)] (by kernel_rfl) (by kernel_rfl) rfl ?_
  intro w2 x2 _
  have hbb2 := (hbb.ext' n1.ext).ext' x2
  have hc2 : w2.cell? ⟨K.nb, 0 + n * 1, none⟩ = some (.iface T (pt ub)) := by rw [Nat.mul_one, Nat.zero_add]; exact cell_of ((hnb.ext' n1.ext).ext' x2) hnc
  refine zsd ?_
  refine WD.yld rfl rfl rfl rfl (yld_load_c rfl hc2) ?_
  refine zsd ?_
  refine zst ?_
  have x := n1.ext.trans x2
  exact fin1 (.inl rfl) rfl rfl ⟨s, [], (Made.rfl' hx.bi x).le (by have := wt_pos t; omega), RT.ext x hRT, _, _, rfl⟩

set_option maxHeartbeats 1000000 in
theorem typ_pointer (D : List De) (K : Cfg) (i : Nat) (t : Ty) (hk : t.kind = 2) (ih : ∀ (j : Nat) e, t.elems[j]? = some e → TypC D K i e) : TypC D K i t := by
  intro s w bb made p cs hx ha hb
  obtain ⟨a, cp, rfl, hv⟩ := ha.open
  obtain ⟨v, hs⟩ := ha.sh
  have hlen := hs.shape.len (by rw [hk]; simp [elemsN])
  rw [hk] at hlen
  obtain ⟨e, hel⟩ := len_one hlen
  have he : t.elems[0]? = some e := by rw [hel]; rfl
  have hwe := wt_one hel
  obtain ⟨b, o, a3, c3, rfl, hpb, hc, hae⟩ := ha.el hv he
  have hl0 : 0 < t.elems.length := by rw [hel]; exact Nat.one_pos
  unfold tyc
  rw [hk]
  refine W.enter (args := [pt bb, .agg (tyl 2 t.n t.count t.vr (.slice (some ⟨b, o, none⟩) t.elems.length cp) t.name t.tag t.emb).toArray]) Tryz.func79 rfl Tryz.ntmps79 rfl rfl ?_
  refine zst ?_
  refine WU.stp rfl rfl rfl (by first | exact stp_box rfl rfl | exact stp_box1 rfl rfl) ?_
  rintro _ w1 ⟨b1, rfl, n1⟩
  have hc1 : Cells w1 b (o + 0 * 8) (tyc e a3 c3) := hc.ext n1.ext
  refine zst ?_
  refine WU.yld rfl rfl rfl (yld_load_cells rfl hc1) ?_
  refine zst ?_
  refine WU.stp rfl rfl rfl (stp_call rfl (ih 0 e he s w1 bb made p _ (hx.ext n1.ext) (hae.ext n1.ext) (by omega))) ?_
  rintro r w2 ⟨s', new, m2, rt2, T, eb, rfl⟩
  refine WU.stp rfl rfl rfl (stp_call rfl (c_NewPointer T (pt eb) w2)) ?_
  rintro _ w3 ⟨b3, rfl, n3⟩
  refine zst ?_
  have hge : w1.heap.size ≤ b3 := by have := n3.num; have := m2.sta.size; omega
  have hnone : s'.g b3 = none := m2.bi.fresh (by have := n3.num; omega)
  have hni : ¬ isIf t := by
    rintro (h | h)
    · omega
    · omega
  refine fin1 (.inl rfl) rfl rfl ⟨_, _, ((m2.ext n3.ext).set hge hnone n3.has.lt hni).before n1.ext |>.le (by omega), .ptr t e _ b3 hk hel ?_ (by have := n1.ext.size; omega) n3.has (Gs.set_same ..), _, _, rfl⟩
  exact ((RT.ext n3.ext rt2).le (Gs.gle_set hnone).le).mono fun c _ hc => Nat.le_trans n1.ext.size hc

set_option maxHeartbeats 1000000 in
theorem typ_slice (D : List De) (K : Cfg) (i : Nat) (t : Ty) (hk : t.kind = 3) (ih : ∀ (j : Nat) e, t.elems[j]? = some e → TypC D K i e) : TypC D K i t := by
  intro s w bb made p cs hx ha hb
  obtain ⟨a, cp, rfl, hv⟩ := ha.open
  obtain ⟨v, hs⟩ := ha.sh
  have hlen := hs.shape.len (by rw [hk]; simp [elemsN])
  rw [hk] at hlen
  obtain ⟨e, hel⟩ := len_one hlen
  have he : t.elems[0]? = some e := by rw [hel]; rfl
  have hwe := wt_one hel
  obtain ⟨b, o, a3, c3, rfl, hpb, hc, hae⟩ := ha.el hv he
  have hl0 : 0 < t.elems.length := by rw [hel]; exact Nat.one_pos
  unfold tyc
  rw [hk]
  refine W.enter (args := [pt bb, .agg (tyl 3 t.n t.count t.vr (.slice (some ⟨b, o, none⟩) t.elems.length cp) t.name t.tag t.emb).toArray]) Tryz.func79 rfl Tryz.ntmps79 rfl rfl ?_
  refine zst ?_
  refine WU.stp rfl rfl rfl (by first | exact stp_box rfl rfl | exact stp_box1 rfl rfl) ?_
  rintro _ w1 ⟨b1, rfl, n1⟩
  have hc1 : Cells w1 b (o + 0 * 8) (tyc e a3 c3) := hc.ext n1.ext
  refine zst ?_
  refine WU.yld rfl rfl rfl (yld_load_cells rfl hc1) ?_
  refine zst ?_
  refine WU.stp rfl rfl rfl (stp_call rfl (ih 0 e he s w1 bb made p _ (hx.ext n1.ext) (hae.ext n1.ext) (by omega))) ?_
  rintro r w2 ⟨s', new, m2, rt2, T, eb, rfl⟩
  refine WU.stp rfl rfl rfl (stp_call rfl (c_NewSlice T (pt eb) w2)) ?_
  rintro _ w3 ⟨b3, rfl, n3⟩
  refine zst ?_
  have hge : w1.heap.size ≤ b3 := by have := n3.num; have := m2.sta.size; omega
  have hnone : s'.g b3 = none := m2.bi.fresh (by have := n3.num; omega)
  have hni : ¬ isIf t := by
    rintro (h | h)
    · omega
    · omega
  refine fin1 (.inl rfl) rfl rfl ⟨_, _, ((m2.ext n3.ext).set hge hnone n3.has.lt hni).before n1.ext |>.le (by omega), .slice t e _ b3 hk hel ?_ (by have := n1.ext.size; omega) n3.has (Gs.set_same ..), _, _, rfl⟩
  exact ((RT.ext n3.ext rt2).le (Gs.gle_set hnone).le).mono fun c _ hc => Nat.le_trans n1.ext.size hc

set_option maxHeartbeats 1000000 in
theorem typ_array (D : List De) (K : Cfg) (i : Nat) (t : Ty) (hk : t.kind = 4) (ih : ∀ (j : Nat) e, t.elems[j]? = some e → TypC D K i e) : TypC D K i t := by
  intro s w bb made p cs hx ha hb
  obtain ⟨a, cp, rfl, hv⟩ := ha.open
  obtain ⟨v, hs⟩ := ha.sh
  have hlen := hs.shape.len (by rw [hk]; simp [elemsN])
  rw [hk] at hlen
  obtain ⟨e, hel⟩ := len_one hlen
  have he : t.elems[0]? = some e := by rw [hel]; rfl
  have hwe := wt_one hel
  obtain ⟨b, o, a3, c3, rfl, hpb, hc, hae⟩ := ha.el hv he
  have hl0 : 0 < t.elems.length := by rw [hel]; exact Nat.one_pos
  unfold tyc
  rw [hk]
  refine W.enter (args := [pt bb, .agg (tyl 4 t.n t.count t.vr (.slice (some ⟨b, o, none⟩) t.elems.length cp) t.name t.tag t.emb).toArray]) Tryz.func79 rfl Tryz.ntmps79 rfl rfl ?_
  refine zst ?_
  refine WU.stp rfl rfl rfl (by first | exact stp_box rfl rfl | exact stp_box1 rfl rfl) ?_
  rintro _ w1 ⟨b1, rfl, n1⟩
  have hc1 : Cells w1 b (o + 0 * 8) (tyc e a3 c3) := hc.ext n1.ext
  have ib1 := n1.has
  obtain ⟨F, hFd⟩ : ∃ F : World → Prop, ∀ W, F W ↔ (Has W b1 (.cells #[.int .i64 4, .int .i64 t.n, .int .i64 t.count, .bool t.vr, .slice (some ⟨b, o, none⟩) t.elems.length cp, .string t.name, .string t.tag, .bool t.emb] 26) ∧ Cells W b (o + 0 * 8) (tyc e a3 c3)) := ⟨fun W => (Has W b1 (.cells #[.int .i64 4, .int .i64 t.n, .int .i64 t.count, .bool t.vr, .slice (some ⟨b, o, none⟩) t.elems.length cp, .string t.name, .string t.tag, .bool t.emb] 26) ∧ Cells W b (o + 0 * 8) (tyc e a3 c3)), fun _ => Iff.rfl⟩
  refine zst ?_
  refine W.regR (R := fun a b => F a → F b) (fun _ h => h) (fun _ _ _ h k x => k (h x)) [(0, .q), (1, .q), (2, .q), (3, .q), (4, .q), (6, .q), (7, .q), (5, .l), (8, .l), (9, .q), (10, .q)] (by kernel_rfl) (by kernel_rfl) rfl ?_
  intro w2 x2 _
  have hF : F w2 := (hFd _).2 ⟨ib1.ext' x2, hc1.ext x2⟩
  have x12 := n1.ext.trans x2
  (repeat (first
      | refine WR.nilk ?_
      | refine WR.nil ?_
      | refine WR.yld (fun _ h => h) rfl rfl rfl rfl (fun w' hx => by obtain ⟨i1, i2⟩ := (hFd _).1 (hx hF); first | exact zyl | (exact yld_load_cells rfl i2) | exact yld_indexAddr_arr rfl rfl (by omega)) ?_
      | refine WR.skip rfl rfl rfl rfl ?_))
  refine WR.stp rfl rfl rfl rfl (stp_call rfl (ih 0 e he s w2 bb made p _ (hx.ext x12) (hae.ext x12) (by omega))) ?_
  rintro r w3 ⟨s', new, m3, rt3, T, eb, rfl⟩
  have hF : F w3 := (hFd _).2 ⟨Has.sta m3.sta (ib1.ext' x2), Cells.sameB (m3.sta.old b (ha.p b hpb).1 (Nat.lt_of_lt_of_le (ha.p b hpb).2 x12.size)) (hc1.ext x2)⟩
  refine ⟨fun _ => hF, ?_⟩
  (repeat (first
      | refine WR.nilk ?_
      | refine WR.nil ?_
      | refine WR.yld (fun _ h => h) rfl rfl rfl rfl (fun w' hx => by obtain ⟨i1, i2⟩ := (hFd _).1 (hx hF); first | exact zyl | (exact yld_load_cells rfl i2) | exact yld_indexAddr_arr rfl rfl (by omega)) ?_
      | refine WR.skip rfl rfl rfl rfl ?_))
  refine WR.stp rfl rfl rfl rfl (stp_call rfl (c_NewArray T (pt eb) t.n w3)) ?_
  rintro _ w4 ⟨b4, rfl, n4⟩
  have hF : F w4 := (hFd _).2 ⟨((hFd _).1 hF).1.ext' n4.ext, ((hFd _).1 hF).2.ext n4.ext⟩
  refine ⟨fun _ => hF, ?_⟩
  (repeat (first
      | refine WR.nilk ?_
      | refine WR.nil ?_
      | refine WR.yld (fun _ h => h) rfl rfl rfl rfl (fun w' hx => by obtain ⟨i1, i2⟩ := (hFd _).1 (hx hF); first | exact zyl | (exact yld_load_cells rfl i2) | exact yld_indexAddr_arr rfl rfl (by omega)) ?_
      | refine WR.skip rfl rfl rfl rfl ?_))
  refine zst ?_
  have hge : w2.heap.size ≤ b4 := by have := n4.num; have := m3.sta.size; omega
  have hnone : s'.g b4 = none := m3.bi.fresh (by have := n4.num; omega)
  have hni : ¬ isIf t := by
    rintro (h | h)
    · omega
    · omega
  refine fin1 (.inl rfl) rfl rfl ⟨_, _, ((m3.ext n4.ext).set hge hnone n4.has.lt hni).before x12 |>.le (by omega), .array t e _ b4 hk hel ?_ (by have := x12.size; omega) n4.has (Gs.set_same ..), _, _, rfl⟩
  exact ((RT.ext n4.ext rt3).le (Gs.gle_set hnone).le).mono fun c _ hc => Nat.le_trans x12.size hc

set_option maxHeartbeats 1000000 in
theorem typ_chan (D : List De) (K : Cfg) (i : Nat) (t : Ty) (hk : t.kind = 6) (ih : ∀ (j : Nat) e, t.elems[j]? = some e → TypC D K i e) : TypC D K i t := by
  intro s w bb made p cs hx ha hb
  obtain ⟨a, cp, rfl, hv⟩ := ha.open
  obtain ⟨v, hs⟩ := ha.sh
  have hlen := hs.shape.len (by rw [hk]; simp [elemsN])
  rw [hk] at hlen
  obtain ⟨e, hel⟩ := len_one hlen
  have he : t.elems[0]? = some e := by rw [hel]; rfl
  have hwe := wt_one hel
  obtain ⟨b, o, a3, c3, rfl, hpb, hc, hae⟩ := ha.el hv he
  have hl0 : 0 < t.elems.length := by rw [hel]; exact Nat.one_pos
  have hn0 := hs.shape.n0 (by rw [hk]; simp [limitN])
  have hn1 := hs.shape.n1 (by rw [hk]; simp [limitN])
  rw [hk] at hn1
  unfold tyc
  rw [hk]
  refine W.enter (args := [pt bb, .agg (tyl 6 t.n t.count t.vr (.slice (some ⟨b, o, none⟩) t.elems.length cp) t.name t.tag t.emb).toArray]) Tryz.func79 rfl Tryz.ntmps79 rfl rfl ?_
  refine zst ?_
  refine WU.stp rfl rfl rfl (by first | exact stp_box rfl rfl | exact stp_box1 rfl rfl) ?_
  rintro _ w1 ⟨b1, rfl, n1⟩
  have hc1 : Cells w1 b (o + 0 * 8) (tyc e a3 c3) := hc.ext n1.ext
  have ib1 := n1.has
  obtain ⟨F, hFd⟩ : ∃ F : World → Prop, ∀ W, F W ↔ (Has W b1 (.cells #[.int .i64 6, .int .i64 t.n, .int .i64 t.count, .bool t.vr, .slice (some ⟨b, o, none⟩) t.elems.length cp, .string t.name, .string t.tag, .bool t.emb] 26) ∧ Cells W b (o + 0 * 8) (tyc e a3 c3)) := ⟨fun W => (Has W b1 (.cells #[.int .i64 6, .int .i64 t.n, .int .i64 t.count, .bool t.vr, .slice (some ⟨b, o, none⟩) t.elems.length cp, .string t.name, .string t.tag, .bool t.emb] 26) ∧ Cells W b (o + 0 * 8) (tyc e a3 c3)), fun _ => Iff.rfl⟩
  refine zst ?_
  refine W.regR (R := fun a b => F a → F b) (fun _ h => h) (fun _ _ _ h k x => k (h x)) [(0, .q), (1, .q), (3, .q), (4, .q), (5, .q), (6, .q), (7, .q), (2, .l), (8, .l), (9, .l), (10, .q), (11, .q)] (by kernel_rfl) (by kernel_rfl) rfl ?_
  intro w2 x2 _
  have hF : F w2 := (hFd _).2 ⟨ib1.ext' x2, hc1.ext x2⟩
  have x12 := n1.ext.trans x2
  (repeat (first
      | refine WR.nilk ?_
      | refine WR.nil ?_
      | refine WR.yld (fun _ h => h) rfl rfl rfl rfl (fun w' hx => by obtain ⟨i1, i2⟩ := (hFd _).1 (hx hF); first | exact zyl | (exact yld_load_cells rfl i2) | exact yld_indexAddr_arr rfl rfl (by omega)) ?_
      | refine WR.skip rfl rfl rfl rfl ?_))
  refine WR.stp rfl rfl rfl rfl (stp_call rfl (c_direction t.n w2 ⟨hn0, by simpa [limitN] using hn1⟩)) ?_
  rintro _ _ ⟨rfl, rfl⟩
  refine ⟨fun h => h, ?_⟩
  (repeat (first
      | refine WR.nilk ?_
      | refine WR.nil ?_
      | refine WR.yld (fun _ h => h) rfl rfl rfl rfl (fun w' hx => by obtain ⟨i1, i2⟩ := (hFd _).1 (hx hF); first | exact zyl | (exact yld_load_cells rfl i2) | exact yld_indexAddr_arr rfl rfl (by omega)) ?_
      | refine WR.skip rfl rfl rfl rfl ?_))
  refine WR.stp rfl rfl rfl rfl (stp_call rfl (ih 0 e he s w2 bb made p _ (hx.ext x12) (hae.ext x12) (by omega))) ?_
  rintro r w3 ⟨s', new, m3, rt3, T, eb, rfl⟩
  have hF : F w3 := (hFd _).2 ⟨Has.sta m3.sta (ib1.ext' x2), Cells.sameB (m3.sta.old b (ha.p b hpb).1 (Nat.lt_of_lt_of_le (ha.p b hpb).2 x12.size)) (hc1.ext x2)⟩
  refine ⟨fun _ => hF, ?_⟩
  (repeat (first
      | refine WR.nilk ?_
      | refine WR.nil ?_
      | refine WR.yld (fun _ h => h) rfl rfl rfl rfl (fun w' hx => by obtain ⟨i1, i2⟩ := (hFd _).1 (hx hF); first | exact zyl | (exact yld_load_cells rfl i2) | exact yld_indexAddr_arr rfl rfl (by omega)) ?_
      | refine WR.skip rfl rfl rfl rfl ?_))
  refine WR.stp rfl rfl rfl rfl (stp_call rfl (c_NewChan t.n T (pt eb) w3)) ?_
  rintro _ w4 ⟨b4, rfl, n4⟩
  have hF : F w4 := (hFd _).2 ⟨((hFd _).1 hF).1.ext' n4.ext, ((hFd _).1 hF).2.ext n4.ext⟩
  refine ⟨fun _ => hF, ?_⟩
  (repeat (first
      | refine WR.nilk ?_
      | refine WR.nil ?_
      | refine WR.yld (fun _ h => h) rfl rfl rfl rfl (fun w' hx => by obtain ⟨i1, i2⟩ := (hFd _).1 (hx hF); first | exact zyl | (exact yld_load_cells rfl i2) | exact yld_indexAddr_arr rfl rfl (by omega)) ?_
      | refine WR.skip rfl rfl rfl rfl ?_))
  refine zst ?_
  have hge : w2.heap.size ≤ b4 := by have := n4.num; have := m3.sta.size; omega
  have hnone : s'.g b4 = none := m3.bi.fresh (by have := n4.num; omega)
  have hni : ¬ isIf t := by
    rintro (h | h)
    · omega
    · omega
  refine fin1 (.inl rfl) rfl rfl ⟨_, _, ((m3.ext n4.ext).set hge hnone n4.has.lt hni).before x12 |>.le (by omega), .chan t e _ b4 hk hel ?_ (by have := x12.size; omega) n4.has (Gs.set_same ..), _, _, rfl⟩
  exact ((RT.ext n4.ext rt3).le (Gs.gle_set hnone).le).mono fun c _ hc => Nat.le_trans x12.size hc

set_option maxHeartbeats 2000000 in
theorem typ_map (D : List De) (K : Cfg) (i : Nat) (t : Ty) (hk : t.kind = 5) (ih : ∀ (j : Nat) e, t.elems[j]? = some e → TypC D K i e) : TypC D K i t := by
  intro s w bb made p cs hx ha hb
  obtain ⟨a, cp, rfl, hv⟩ := ha.open
  obtain ⟨v, hs⟩ := ha.sh
  have hlen := hs.shape.len (by rw [hk]; simp [elemsN])
  rw [hk] at hlen
  obtain ⟨e, f, hel⟩ := len_two hlen
  have he : t.elems[0]? = some e := by rw [hel]; rfl
  have hf : t.elems[1]? = some f := by rw [hel]; rfl
  have hwe := wt_two hel
  obtain ⟨b, o, a3, c3, rfl, hpb, hc, hae⟩ := ha.el hv he
  obtain ⟨b', o', a4, c4, hbo, _, hc', haf⟩ := ha.el hv hf
  cases hbo
  have hl0 : 1 < t.elems.length := by rw [hel]; simp
  unfold tyc
  rw [hk]
  refine W.enter (args := [pt bb, .agg (tyl 5 t.n t.count t.vr (.slice (some ⟨b, o, none⟩) t.elems.length cp) t.name t.tag t.emb).toArray]) Tryz.func79 rfl Tryz.ntmps79 rfl rfl ?_
  refine zst ?_
  refine WU.stp rfl rfl rfl (by first | exact stp_box rfl rfl | exact stp_box1 rfl rfl) ?_
  rintro _ w1 ⟨b1, rfl, n1⟩
  have hc1 : Cells w1 b (o + 0 * 8) (tyc e a3 c3) := hc.ext n1.ext
  have hc1' : Cells w1 b (o + 1 * 8) (tyc f a4 c4) := hc'.ext n1.ext
  have ib1 := n1.has
  obtain ⟨F, hFd⟩ : ∃ F : World → Prop, ∀ W, F W ↔ (Has W b1 (.cells #[.int .i64 5, .int .i64 t.n, .int .i64 t.count, .bool t.vr, .slice (some ⟨b, o, none⟩) t.elems.length cp, .string t.name, .string t.tag, .bool t.emb] 26) ∧ Cells W b (o + 0 * 8) (tyc e a3 c3) ∧ Cells W b (o + 1 * 8) (tyc f a4 c4)) := ⟨fun W => (Has W b1 (.cells #[.int .i64 5, .int .i64 t.n, .int .i64 t.count, .bool t.vr, .slice (some ⟨b, o, none⟩) t.elems.length cp, .string t.name, .string t.tag, .bool t.emb] 26) ∧ Cells W b (o + 0 * 8) (tyc e a3 c3) ∧ Cells W b (o + 1 * 8) (tyc f a4 c4)), fun _ => Iff.rfl⟩
  refine zst ?_
  refine W.regR (R := fun a b => F a → F b) (fun _ h => h) (fun _ _ _ h k x => k (h x)) [(0, .q), (1, .q), (2, .q), (3, .q), (4, .q), (6, .q), (7, .q), (8, .q), (9, .q), (10, .q), (5, .l), (11, .l), (12, .l), (13, .q), (14, .q)] (by kernel_rfl) (by kernel_rfl) rfl ?_
  intro w2 x2 _
  have hF : F w2 := (hFd _).2 ⟨ib1.ext' x2, hc1.ext x2, hc1'.ext x2⟩
  have x12 := n1.ext.trans x2
  (repeat (first
      | refine WR.nilk ?_
      | refine WR.nil ?_
      | refine WR.yld (fun _ h => h) rfl rfl rfl rfl (fun w' hx => by obtain ⟨i1, i2, i3⟩ := (hFd _).1 (hx hF); first | exact zyl | (exact yld_load_cells rfl i2) | exact yld_indexAddr_arr rfl rfl (by omega)) ?_
      | refine WR.skip rfl rfl rfl rfl ?_))
  refine WR.yld (fun _ h => h) rfl rfl rfl rfl (fun w' hx => by obtain ⟨i1, i2, i3⟩ := (hFd _).1 (hx hF); exact yld_load_cells rfl i3) ?_
  (repeat (first
      | refine WR.nilk ?_
      | refine WR.nil ?_
      | refine WR.yld (fun _ h => h) rfl rfl rfl rfl (fun w' hx => by obtain ⟨i1, i2, i3⟩ := (hFd _).1 (hx hF); first | exact zyl | (exact yld_load_cells rfl i2) | exact yld_indexAddr_arr rfl rfl (by omega)) ?_
      | refine WR.skip rfl rfl rfl rfl ?_))
  refine WR.stp rfl rfl rfl rfl (stp_call rfl (ih 0 e he s w2 bb made p _ (hx.ext x12) (hae.ext x12) (by omega))) ?_
  rintro r w3 ⟨s', new, m3, rt3, T, eb, rfl⟩
  have hold := m3.sta.old b (ha.p b hpb).1 (Nat.lt_of_lt_of_le (ha.p b hpb).2 x12.size)
  have hF : F w3 := (hFd _).2 ⟨Has.sta m3.sta (ib1.ext' x2), Cells.sameB hold (hc1.ext x2), Cells.sameB hold (hc1'.ext x2)⟩
  refine ⟨fun _ => hF, ?_⟩
  (repeat (first
      | refine WR.nilk ?_
      | refine WR.nil ?_
      | refine WR.yld (fun _ h => h) rfl rfl rfl rfl (fun w' hx => by obtain ⟨i1, i2, i3⟩ := (hFd _).1 (hx hF); first | exact zyl | (exact yld_load_cells rfl i3) | exact yld_indexAddr_arr rfl rfl (by omega)) ?_
      | refine WR.skip rfl rfl rfl rfl ?_))
  have hln := m3.len
  refine WR.stp rfl rfl rfl rfl (stp_call rfl (ih 1 f hf s' w3 bb (made ++ new) p _ ((hx.ext x12).made m3) ((haf.ext x12).sta m3.sta) (by rw [List.length_append]; omega))) ?_
  rintro r w4 ⟨s'', new', m4, rt4, T', eb', rfl⟩
  have hold' := m4.sta.old b (ha.p b hpb).1 (Nat.lt_of_lt_of_le (Nat.lt_of_lt_of_le (ha.p b hpb).2 x12.size) m3.sta.size)
  have hF : F w4 := (hFd _).2 ⟨Has.sta m4.sta ((hFd _).1 hF).1, Cells.sameB hold' ((hFd _).1 hF).2.1, Cells.sameB hold' ((hFd _).1 hF).2.2⟩
  refine ⟨fun _ => hF, ?_⟩
  (repeat (first
      | refine WR.nilk ?_
      | refine WR.nil ?_
      | refine WR.yld (fun _ h => h) rfl rfl rfl rfl (fun w' hx => by obtain ⟨i1, i2, i3⟩ := (hFd _).1 (hx hF); first | exact zyl | (exact yld_load_cells rfl i3) | exact yld_indexAddr_arr rfl rfl (by omega)) ?_
      | refine WR.skip rfl rfl rfl rfl ?_))
  refine WR.stp rfl rfl rfl rfl (stp_call rfl (c_NewMap T (pt eb) T' (pt eb') w4)) ?_
  rintro _ w5 ⟨b5, rfl, n5⟩
  have hF : F w5 := (hFd _).2 ⟨((hFd _).1 hF).1.ext' n5.ext, ((hFd _).1 hF).2.1.ext n5.ext, ((hFd _).1 hF).2.2.ext n5.ext⟩
  refine ⟨fun _ => hF, ?_⟩
  (repeat (first
      | refine WR.nilk ?_
      | refine WR.nil ?_
      | refine WR.yld (fun _ h => h) rfl rfl rfl rfl (fun w' hx => by obtain ⟨i1, i2, i3⟩ := (hFd _).1 (hx hF); first | exact zyl | (exact yld_load_cells rfl i3) | exact yld_indexAddr_arr rfl rfl (by omega)) ?_
      | refine WR.skip rfl rfl rfl rfl ?_))
  refine zst ?_
  have m34 := m3.trans m4
  have hge : w2.heap.size ≤ b5 := by have := n5.num; have := m34.sta.size; omega
  have hnone : s''.g b5 = none := m4.bi.fresh (by have := n5.num; omega)
  have hni : ¬ isIf t := by
    rintro (h | h)
    · omega
    · omega
  refine fin1 (.inl rfl) rfl rfl ⟨_, _, ((m34.ext n5.ext).set hge hnone n5.has.lt hni).before x12 |>.le (by omega), .map t e f _ _ b5 hk hel ?_ ?_ (by have := x12.size; omega) n5.has (Gs.set_same ..), _, _, rfl⟩
  · exact (((RT.ext n5.ext (rt3.sta m4.sta (by omega))).le m4.gle.le).le (Gs.gle_set hnone).le).mono fun c _ hc => Nat.le_trans x12.size hc
  · exact ((RT.ext n5.ext rt4).le (Gs.gle_set hnone).le).mono fun c _ hc => by have := x12.size; have := m3.sta.size; omega
end Go.Proofs.YtpiegpegjbmlkaaGreatDoor
namespace Go.Proofs.YtpiegpegjbmlkaaGreatDoor
open Go Go.Kd
set_option maxRecDepth 100000

/-! ### Rows of one cell that the call owns -/
theorem flat1 {α : Type} (f : Nat → α) : ∀ l : List Nat, (l.map fun i => [f i]).flatten = l.map f
  | [] => rfl
  | a :: l => by simp [flat1 f l]
theorem Own.row1 {w : World} {base el n : Nat} {v : Value} {f : Nat → Value} (h : Own w base el 1 v ((List.range n).map fun i => [f i])) : ∃ a cp, v = .slice a n cp ∧ ∀ i, i < n → ∃ g cs, a = some ⟨g, 0, none⟩ ∧ base ≤ g ∧ v.ownBlock = some g ∧ Has w g (.cells cs el) ∧ cs[i]? = some (f i) := by
  have h2 := h.row.2
  rw [List.length_map, List.length_range, flat1] at h2
  rcases h2 with ⟨h1, h2⟩ | ⟨g, cap, cur, h1, h2, h3, h4, h5, h6, h7⟩
  · subst h2
    exact ⟨none, 0, h1, fun i hi => by omega⟩
  · refine ⟨_, cap, h1, fun i hi => ⟨g, cur, rfl, h2, by rw [h1]; rfl, ⟨h3⟩, ?_⟩⟩
    have h8 : (cur.toList.take (n * 1))[i]? = some (f i) := by rw [h7, List.getElem?_map, List.getElem?_range hi]; rfl
    rw [Nat.mul_one, List.getElem?_take_of_lt hi] at h8
    simpa using h8
theorem Own.sta {K : Cfg} {l : Nat} {w w' : World} {base el sz : Nat} {v : Value} {ls : List (List Value)} [hi : Imm el] (x : Sta K l w w') (h : Own w base el sz v ls) : Own w' base el sz v ls := h.kept fun k hk => by
  rcases h.row.2 with ⟨h1, _⟩ | ⟨g, cap, cur, h1, _, h3, _⟩
  · rw [h1] at hk; cases hk
  · rw [h1] at hk
    cases hk
    exact (Has.sta x (⟨h3⟩ : Has w g (.cells cur el (0, 0)))).at_.trans h3.symm
theorem range_snoc {α : Type} (f : Nat → α) (n : Nat) : (List.range n).map f ++ [f n] = (List.range (n + 1)).map f := by
  rw [List.range_succ, List.map_append]; rfl
/-- f, but for place n -/
def put {α : Type} (f : Nat → α) (n : Nat) (x : α) : Nat → α := fun i => if i = n then x else f i
theorem put_same {α : Type} (f : Nat → α) (n : Nat) (x : α) : put f n x n = x := by simp [put]
theorem put_lt {α : Type} (f : Nat → α) {n i : Nat} (x : α) (h : i < n) : put f n x i = f i := by simp [put, Nat.ne_of_lt h]
/-- what is read lies in no row that grows -/
theorem RT.app {K : Cfg} {s : Gs} {w w' : World} {v v' u : Value} {t : Ty} {P : Nat → Prop} (a : App w w' v) (hg : ∀ g, v'.ownBlock = some g → v.ownBlock = some g ∨ g = w.heap.size) (h : RT K s w (fun b => P b ∧ v.ownBlock ≠ some b) u t) : RT K s w' (fun b => P b ∧ v'.ownBlock ≠ some b) u t := by
  have h1 : RT K s w (fun b => (P b ∧ v.ownBlock ≠ some b) ∧ b < w.heap.size) u t := h.mono fun b hb hp => ⟨hp, hb⟩
  have h2 : RT K s w' (fun b => (P b ∧ v.ownBlock ≠ some b) ∧ b < w.heap.size) u t := h1.same fun b hb => a.block b hb.2 fun e => hb.1.2 e.symm
  exact h2.mono fun b _ hb => ⟨hb.1.1, fun e => by
    rcases hg b e with h | h
    · exact hb.1.2 h
    · have := hb.2; omega⟩
theorem RT.kind3 {K : Cfg} {s : Gs} {w : World} {p : Nat → Prop} {v : Value} {t : Ty} (h : RT K s w p v t) (hk : t.kind = 3) : ∃ b, v = .iface tSL (pt b) := by
  cases h <;> first
    | omega
    | exact ⟨_, rfl⟩
abbrev tVR : Nat := 106
/-- types of blocks that the builder's facts speak of -/
def plainEl (el : Nat) : Bool := el != tBU && (el != tPK && (el != tPI && (el != tIF && (el != tTS && (el != tTP && el != tTM)))))
theorem Has.app {w w' : World} {base el sz : Nat} {v : Value} {ls : List (List Value)} (a : App w w' v) (ho : Own w base el sz v ls) {b t : Nat} {cs : Array Value} {fz : Nat × Nat} (h : Has w b (.cells cs t fz)) (ht : t ≠ el) : Has w' b (.cells cs t fz) := App.keep a h (Own.ne ho h ht)
theorem AllT.app {w w' : World} {base el sz : Nat} {v : Value} {ls : List (List Value)} (a : App w w' v) (ho : Own w base el sz v ls) (hel : plainEl el = true) {u : Value} (h : AllT w u) : AllT w' u := by
  simp only [plainEl, Bool.and_eq_true, bne_iff_ne] at hel
  obtain ⟨e1, e2, e3, e4, e5, e6, e7⟩ := hel
  obtain ⟨a', c, tb, h1, h2, h3⟩ := h
  exact ⟨a', c, tb, h1, fun i hi => by
    obtain ⟨b, cs, k1, k2, k3⟩ := h2 i hi
    exact ⟨b, cs, k1, Has.app a ho k2 (Ne.symm e6), k3⟩, Has.app a ho h3 (Ne.symm e7)⟩
theorem Fresh.app {w w' : World} {base el sz : Nat} {v : Value} {ls : List (List Value)} (a : App w w' v) (ho : Own w base el sz v ls) (hel : plainEl el = true) {b : Nat} {t : Ty} (h : Fresh w b t) : Fresh w' b t := by
  have hel' := hel
  simp only [plainEl, Bool.and_eq_true, bne_iff_ne] at hel
  obtain ⟨e1, e2, e3, e4, e5, e6, e7⟩ := hel
  have key : ∀ ts, IfT w b ts → IfT w' b ts := fun ts ⟨ma, mn, mc, ea, en, ec, h⟩ => ⟨ma, mn, mc, ea, en, ec, Has.app a ho h (Ne.symm e4)⟩
  rcases h with h | ⟨⟨tb, u, h1, h2, h3⟩, h4⟩
  · exact .inl (key _ h)
  · exact .inr ⟨⟨tb, u, key _ h1, Has.app a ho h2 (Ne.symm e5), h3.app a ho hel'⟩, h4⟩
theorem Made.app {K : Cfg} {s1 s2 : Gs} {w1 w2 w3 : World} {bb : Nat} {made n1 : List Nat} {m : Nat} {base el sz : Nat} {v : Value} {ls : List (List Value)} (h : Made K s1 w1 bb made m s2 n1 w2) (a : App w2 w3 v) (ho : Own w2 base el sz v ls) (hb : w1.heap.size ≤ base)
    (hel : plainEl el = true) (hnb : K.nb < w1.heap.size) (hsl : ∀ d, s2.sl d → v.ownBlock ≠ some d) : Made K s1 w1 bb made m s2 n1 w3 := by
  have hel' := hel
  simp only [plainEl, Bool.and_eq_true, bne_iff_ne] at hel
  obtain ⟨e1, e2, e3, e4, e5, e6, e7⟩ := hel
  refine ⟨h.gle, h.sta.app_new a ho hb, h.bi.keep a.size (fun d cs t hd ht => ?_) fun _ _ hr => hr.same fun d hd => a.block d (h.bi.sll d hd) fun e => hsl d hd e.symm, h.len, fun b u hu => ?_, fun d hd => (h.sn d hd).imp id fun h => ⟨h.1, Nat.lt_of_lt_of_le h.2 a.size⟩⟩
  · have hd' : Has w2 d (.cells cs t (0, 0)) := ⟨hd⟩
    rcases ht with rfl | ⟨rfl, rfl⟩ | rfl | rfl
    · exact (Has.app a ho hd' (Ne.symm e1)).at_.trans hd.symm
    · refine a.block _ hd'.lt fun e => ?_
      have := (ho.lt _ e.symm).1
      omega
    · exact (Has.app a ho hd' (Ne.symm e2)).at_.trans hd.symm
    · exact (Has.app a ho hd' (Ne.symm e3)).at_.trans hd.symm
  · rcases h.gn b u hu with k | ⟨k1, k2, k3⟩
    · exact .inl k
    · exact .inr ⟨k1, Nat.lt_of_lt_of_le k2 a.size, fun hi => ⟨(k3 hi).1, (k3 hi).2.app a ho hel'⟩⟩

/-- what two rows that grow are: the objects' type and cells, the rows' element types, what the second row holds, how many elements have an object -/
structure RowK where
  ty : Nat
  cf : Ty → Value → Array Value
  el1 : Nat
  el2 : Nat
  g2 : (Nat → Nat) → (Nat → Value) → Nat → Value
  cN : Nat
  h1 : plainEl el1 = true
  h2 : plainEl el2 = true
  t1 : ty ≠ el1
  t2 : ty ≠ el2
  tb : ty ≠ tBU ∧ ty ≠ tPI
/-- how far the elements l are made: k of them, of which n1 and n2 lie in the rows; w: the world at the beginning -/
structure GI (R : RowK) (K : Cfg) (s : Gs) (w : World) (bb : Nat) (made : List Nat) (l : List Ty) (k n1 n2 : Nat) (vp vr : Value) (s' : Gs) (new : List Nat) (vb : Nat → Nat) (vv : Nat → Value) (wk : World) : Prop where
  m : Made K s w bb made (wts (l.take k)) s' new wk
  op : Own wk w.heap.size R.el1 1 vp ((List.range n1).map fun i => [pt (vb i)])
  or : Own wk w.heap.size R.el2 1 vr ((List.range n2).map fun i => [R.g2 vb vv i])
  ne : ∀ g, vp.ownBlock = some g → vr.ownBlock ≠ some g
  rt : ∀ (i : Nat) e, i < k → l[i]? = some e → RT K s' wk (fun b => w.heap.size ≤ b ∧ vp.ownBlock ≠ some b ∧ vr.ownBlock ≠ some b) (vv i) e
  var : ∀ (i : Nat) e, i < k → i < R.cN → l[i]? = some e → w.heap.size ≤ vb i ∧ Has wk (vb i) (.cells (R.cf e (vv i)) R.ty)
  lt1 : n1 ≤ k
  so : ∀ d, s'.sl d → vp.ownBlock ≠ some d ∧ vr.ownBlock ≠ some d
theorem take_wts {l : List Ty} {k : Nat} {e : Ty} (h : l[k]? = some e) : wts (l.take k) + wt e = wts (l.take (k + 1)) := by
  have hlt := (List.getElem?_eq_some_iff.1 h).1
  have h2 : l.take (k + 1) = l.take k ++ [e] := by rw [List.take_add_one, h]; rfl
  have h3 : ∀ a : List Ty, wts (a ++ [e]) = wts a + wt e := by
    intro a
    induction a with
    | nil => simp [wts]
    | cons x r ih => simp only [List.cons_append, wts, ih]; omega
  rw [h2, h3]
theorem take_le {l : List Ty} (k : Nat) : wts (l.take k) ≤ wts l := by
  induction l generalizing k with
  | nil => simp
  | cons a r ih => cases k with
    | zero => simp [wts]
    | succ k => simp only [List.take_succ_cons, wts]; have := ih k; omega
theorem Own.ltE {w : World} {base el sz : Nat} {v : Value} {ls : List (List Value)} (h : Own w base el sz v ls) {b : Nat} (hb : w.heap.size ≤ b) : v.ownBlock ≠ some b := fun e => by have := (h.lt b e).2; omega
theorem Own.sta0 {K : Cfg} {w w' : World} {base el sz : Nat} {v : Value} {ls : List (List Value)} (x : Sta K 0 w w') (hel : plainEl el = true) (h : Own w base el sz v ls) : Own w' base el sz v ls := h.kept fun k hk => by
  simp only [plainEl, Bool.and_eq_true, bne_iff_ne] at hel
  rcases h.row.2 with ⟨h1, _⟩ | ⟨g, cap, cur, h1, _, h3, _⟩
  · rw [h1] at hk; cases hk
  · rw [h1] at hk
    cases hk
    exact (Has.sta0 x hel.1 hel.2.2.1 (⟨h3⟩ : Has w g (.cells cur el (0, 0)))).at_.trans h3.symm
theorem GI.next0 {R : RowK} {K : Cfg} {s s' s2 : Gs} {w wk w1 w2 : World} {bb : Nat} {made new new2 : List Nat} {l : List Ty} {e : Ty} {k n1 n2 : Nat} {vp vr r : Value} {vb : Nat → Nat} {vv : Nat → Value} (h : GI R K s w bb made l k n1 n2 vp vr s' new vb vv wk) (he : l[k]? = some e)
    (x : Ext wk w1) {mm : Nat} (hmm : mm ≤ wt e) (m : Made K s' w1 bb (made ++ new) mm s2 new2 w2) (rt : RT K s2 w2 (fun b => w1.heap.size ≤ b) r e) (hg : ∀ i, i < n2 → R.g2 vb (put vv k r) i = R.g2 vb vv i) (hc : R.cN ≤ k) :
    GI R K s w bb made l (k + 1) n1 n2 vp vr s2 (new ++ new2) vb (put vv k r) w2 := by
  have hs1 := h.m.sta.size
  have hs2 := x.size
  have hs3 := m.sta.size
  have op1 := h.op.ext x
  have or1 := h.or.ext x
  refine ⟨?_, Own.sta0 m.sta R.h1 op1, ?_, h.ne, fun i e' hi he' => ?_, fun i e' hi hic he' => ?_, by have := h.lt1; omega, fun d hd => (m.sn d hd).elim (h.so d) fun k => ⟨Own.ltE op1 k.1, Own.ltE or1 k.1⟩⟩
  · rw [← take_wts he]
    exact (h.m.ext x).trans (m.le hmm)
  · have := Own.sta0 m.sta R.h2 or1
    have hm : ((List.range n2).map fun i => [R.g2 vb (put vv k r) i]) = (List.range n2).map fun i => [R.g2 vb vv i] := List.map_congr_left fun i hi => by
      rw [hg i (List.mem_range.1 hi)]
    rw [hm]; exact this
  · by_cases hik : i = k
    · subst hik
      rw [he] at he'
      cases he'
      rw [put_same]
      exact rt.mono fun d _ hd => ⟨by omega, Own.ltE op1 hd, Own.ltE or1 hd⟩
    · rw [put_lt vv r (by omega)]
      exact ((RT.ext x (h.rt i e' (by omega) he')).sta m.sta (by omega) |>.le m.gle.le)
  · rw [put_lt vv r (by omega)]
    obtain ⟨k1, k2⟩ := h.var i e' (by omega) hic he'
    exact ⟨k1, Has.sta0 m.sta R.tb.1 R.tb.2 (k2.ext' x)⟩
/-- one more element, with an object -/
theorem GI.next {R : RowK} {K : Cfg} {s s' s2 : Gs} {w wk w1 w2 w3 : World} {bb : Nat} {made new new2 : List Nat} {l : List Ty} {e : Ty} {k n1 n2 : Nat} {vp vr r : Value} {vb : Nat → Nat} {vv : Nat → Value} {b : Nat} (h : GI R K s w bb made l k n1 n2 vp vr s' new vb vv wk) (he : l[k]? = some e)
    (x : Ext wk w1) {mm : Nat} (hmm : mm ≤ wt e) (m : Made K s' w1 bb (made ++ new) mm s2 new2 w2) (rt : RT K s2 w2 (fun b => w1.heap.size ≤ b) r e) (nv : New w2 b (.cells (R.cf e r) R.ty) w3) (hg : ∀ i, i < n2 → R.g2 (put vb k b) (put vv k r) i = R.g2 vb vv i) :
    GI R K s w bb made l (k + 1) n1 n2 vp vr s2 (new ++ new2) (put vb k b) (put vv k r) w3 := by
  have hs1 := h.m.sta.size
  have hs2 := x.size
  have hs3 := m.sta.size
  have hbn := nv.num
  have op1 := h.op.ext x
  have or1 := h.or.ext x
  refine ⟨?_, ?_, ?_, h.ne, fun i e' hi he' => ?_, fun i e' hi hic he' => ?_, by have := h.lt1; omega, fun d hd => (m.sn d hd).elim (h.so d) fun k => ⟨Own.ltE op1 k.1, Own.ltE or1 k.1⟩⟩
  · rw [← take_wts he]
    exact ((h.m.ext x).trans (m.le hmm)).ext nv.ext
  · have := (Own.sta0 m.sta R.h1 op1).ext nv.ext
    have hm : ((List.range n1).map fun i => [pt (put vb k b i)]) = (List.range n1).map fun i => [pt (vb i)] := List.map_congr_left fun i hi => by
      rw [put_lt vb b (Nat.lt_of_lt_of_le (List.mem_range.1 hi) h.lt1)]
    rw [hm]; exact this
  · have := (Own.sta0 m.sta R.h2 or1).ext nv.ext
    have hm : ((List.range n2).map fun i => [R.g2 (put vb k b) (put vv k r) i]) = (List.range n2).map fun i => [R.g2 vb vv i] := List.map_congr_left fun i hi => by
      rw [hg i (List.mem_range.1 hi)]
    rw [hm]; exact this
  · by_cases hik : i = k
    · subst hik
      rw [he] at he'
      cases he'
      rw [put_same]
      exact (RT.ext nv.ext rt).mono fun d _ hd => ⟨by omega, Own.ltE op1 hd, Own.ltE or1 hd⟩
    · rw [put_lt vv r (by omega)]
      exact RT.ext nv.ext ((RT.ext x (h.rt i e' (by omega) he')).sta m.sta (by omega) |>.le m.gle.le)
  · by_cases hik : i = k
    · subst hik
      rw [he] at he'
      cases he'
      rw [put_same, put_same]
      exact ⟨by omega, nv.has⟩
    · rw [put_lt vv r (by omega), put_lt vb b (by omega)]
      obtain ⟨k1, k2⟩ := h.var i e' (by omega) hic he'
      exact ⟨k1, Has.ext' nv.ext (Has.sta0 m.sta R.tb.1 R.tb.2 (k2.ext' x))⟩
theorem GI.ext {R : RowK} {K : Cfg} {s s' : Gs} {w wk w2 : World} {bb : Nat} {made new : List Nat} {l : List Ty} {k n1 n2 : Nat} {vp vr : Value} {vb : Nat → Nat} {vv : Nat → Value} (h : GI R K s w bb made l k n1 n2 vp vr s' new vb vv wk) (x : Ext wk w2) :
    GI R K s w bb made l k n1 n2 vp vr s' new vb vv w2 :=
  ⟨h.m.ext x, h.op.ext x, h.or.ext x, h.ne, fun i e hi he => RT.ext x (h.rt i e hi he), fun i e hi hc he => ⟨(h.var i e hi hc he).1, Has.ext' x (h.var i e hi hc he).2⟩, h.lt1, h.so⟩
/-- appending to the first row -/
theorem GI.app1 {R : RowK} {K : Cfg} {s s' : Gs} {w wk w2 : World} {bb : Nat} {made new : List Nat} {l : List Ty} {k n1 n2 : Nat} {vp vp' vr : Value} {vb : Nat → Nat} {vv : Nat → Value} (h : GI R K s w bb made l k n1 n2 vp vr s' new vb vv wk) (a : App wk w2 vp)
    (o : Own w2 w.heap.size R.el1 1 vp' (((List.range n1).map fun i => [pt (vb i)]) ++ [[pt (vb n1)]])) (hg : ∀ g, vp'.ownBlock = some g → vp.ownBlock = some g ∨ g = wk.heap.size) (hn : n1 < k) (hnb : K.nb < w.heap.size) :
    GI R K s w bb made l k (n1 + 1) n2 vp' vr s' new vb vv w2 := by
  have hro := h.or
  refine ⟨h.m.app a h.op (Nat.le_refl _) R.h1 hnb (fun d hd => (h.so d hd).1), by rw [← range_snoc]; exact o, hro.kept fun g hgr => a.block g (hro.lt g hgr).2 fun e => h.ne g e.symm hgr, fun g hg' e => ?_, fun i e hi he => ?_, fun i e hi hc he => ?_, hn, fun d hd => ⟨fun e => (hg d e).elim (h.so d hd).1 fun k => by have := h.m.bi.sll d hd; omega, (h.so d hd).2⟩⟩
  · rcases hg g hg' with h1 | h1
    · exact h.ne g h1 e
    · exact Own.ltE hro (Nat.le_of_eq h1.symm) e
  · have h1 : RT K s' wk (fun b => (w.heap.size ≤ b ∧ vr.ownBlock ≠ some b) ∧ vp.ownBlock ≠ some b) (vv i) e := (h.rt i e hi he).mono fun b _ hb => ⟨⟨hb.1, hb.2.2⟩, hb.2.1⟩
    exact (h1.app a hg).mono fun b _ hb => ⟨hb.1.1, hb.2, hb.1.2⟩
  · obtain ⟨k1, k2⟩ := h.var i e hi hc he
    exact ⟨k1, Has.app a h.op k2 R.t1⟩
/-- appending to the second row -/
theorem GI.app2 {R : RowK} {K : Cfg} {s s' : Gs} {w wk w2 : World} {bb : Nat} {made new : List Nat} {l : List Ty} {k n1 n2 : Nat} {vp vr vr' : Value} {vb : Nat → Nat} {vv : Nat → Value} (h : GI R K s w bb made l k n1 n2 vp vr s' new vb vv wk) (a : App wk w2 vr)
    (o : Own w2 w.heap.size R.el2 1 vr' (((List.range n2).map fun i => [R.g2 vb vv i]) ++ [[R.g2 vb vv n2]])) (hg : ∀ g, vr'.ownBlock = some g → vr.ownBlock = some g ∨ g = wk.heap.size) (hnb : K.nb < w.heap.size) :
    GI R K s w bb made l k n1 (n2 + 1) vp vr' s' new vb vv w2 := by
  have hpo := h.op
  refine ⟨h.m.app a h.or (Nat.le_refl _) R.h2 hnb (fun d hd => (h.so d hd).2), hpo.kept fun g hgr => a.block g (hpo.lt g hgr).2 fun e => h.ne g hgr e.symm, by rw [← range_snoc (fun i => [R.g2 vb vv i])]; exact o, fun g hg' e => ?_, fun i e hi he => ?_, fun i e hi hc he => ?_, h.lt1, fun d hd => ⟨(h.so d hd).1, fun e => (hg d e).elim (h.so d hd).2 fun k => by have := h.m.bi.sll d hd; omega⟩⟩
  · rcases hg g e with h1 | h1
    · exact h.ne g hg' h1
    · exact Own.ltE hpo (Nat.le_of_eq h1.symm) hg'
  · have h1 : RT K s' wk (fun b => (w.heap.size ≤ b ∧ vp.ownBlock ≠ some b) ∧ vr.ownBlock ≠ some b) (vv i) e := (h.rt i e hi he).mono fun b _ hb => ⟨⟨hb.1, hb.2.1⟩, hb.2.2⟩
    exact (h1.app a hg).mono fun b _ hb => ⟨hb.1.1, hb.1.2, hb.2⟩
  · obtain ⟨k1, k2⟩ := h.var i e hi hc he
    exact ⟨k1, Has.app a h.or k2 R.t2⟩
theorem GI.nil (R : RowK) {K : Cfg} {s : Gs} {w : World} {bb : Nat} {made : List Nat} (l : List Ty) (h : BI K s w bb made) (vb : Nat → Nat) (vv : Nat → Value) : GI R K s w bb made l 0 0 0 (.slice none 0 0) (.slice none 0 0) s [] vb vv w :=
  ⟨(Made.rfl' h (Ext.rfl' w)).le (Nat.zero_le _), by simpa using Own.nil w w.heap.size R.el1 1, by simpa using Own.nil w w.heap.size R.el2 1, fun g hg => (by cases hg), fun i e hi => (by omega), fun i e hi => (by omega), Nat.le_refl _, fun d _ => ⟨fun e => (by cases e), fun e => (by cases e)⟩⟩
end Go.Proofs.YtpiegpegjbmlkaaGreatDoor

/- The walks and the plain laws, part 1. -/
import Derived.Test.YtlemfkbhcleopaaGreatDoorY3
import Derived.Test.YtlemfkbhcleopaaGreatDoorY5
import Derived.Test.YtlemfkbhcleopaaGreatDoorY2
import Derived.Lib.Strings
import Derived.Test.YtlemfkbhcleopaaGreatDoorY4
namespace Go.Proofs.YtlemfkbhcleopaaGreatDoor
open Go Go.Kd
set_option maxRecDepth 100000

end Go.Proofs.YtlemfkbhcleopaaGreatDoor
namespace Go.Proofs.YtlemfkbhcleopaaGreatDoor
open Go Go.Kd

def cR (D : List De) : Nat → Ty → Prop
  | 0, _ => False
  | k + 1, t => (underT D t).kind = 4 ∨ (underT D t).kind = 7 → ∀ (i : Nat) e, (underT D t).elems[i]? = some e → cR D k e
theorem cR_succ {D : List De} : ∀ {k : Nat} {t : Ty}, cR D k t → cR D (k + 1) t
  | _ + 1, _, h => fun hk i e he => cR_succ (h hk i e he)
theorem cR_le {D : List De} {k m : Nat} {t : Ty} (hk : k ≤ m) (h : cR D k t) : cR D m t := by
  induction hk with
  | refl => exact h
  | step _ ih => exact cR_succ ih
theorem cR_congr {D : List De} {t u : Ty} (he : underT D t = underT D u) : ∀ {k : Nat}, cR D k t → cR D k u
  | _ + 1, h => by unfold cR at h ⊢; rw [← he]; exact h
theorem Cmp.rank {D : List De} {t : Ty} {b : Bool} (h : Cmp D t b) : ∃ k, cR D k t := by
  induction h with
  | no t hk => exact ⟨1, fun h => by omega⟩
  | yes t hk => exact ⟨1, fun h => by omega⟩
  | all t bs hk hl _ ih =>
    obtain ⟨k, h⟩ := bound_list (P := fun _ k e => cR D k e) (fun _ _ _ _ h h' => cR_le h h') (underT D t).elems fun i e he => by
      have hlt := (List.getElem?_eq_some_iff.1 he).1
      have hb : bs[i]? = some bs[i] := List.getElem?_eq_getElem (by omega)
      exact ih i e _ he hb
    exact ⟨k + 1, fun _ => h⟩
/-- the least rank -/
def crk (D : List De) (t : Ty) (k : Nat) : Prop := cR D k t ∧ ∀ j, j < k → ¬ cR D j t
theorem crk_exists {D : List De} {t : Ty} : ∀ {k : Nat}, cR D k t → ∃ j, j ≤ k ∧ crk D t j := by
  intro k
  induction k with
  | zero => exact fun h => h.elim
  | succ k ih =>
    intro h
    by_cases hk : cR D k t
    · obtain ⟨j, h1, h2⟩ := ih hk
      exact ⟨j, by omega, h2⟩
    · exact ⟨k + 1, Nat.le_refl _, h, fun j hj hi => hk (cR_le (by omega) hi)⟩
theorem crk_el {D : List De} {t : Ty} {k : Nat} (h : crk D t k) (hk : (underT D t).kind = 4 ∨ (underT D t).kind = 7) {i : Nat} {e : Ty} (he : (underT D t).elems[i]? = some e) : ∃ j, j < k ∧ crk D e j := by
  match k, h with
  | 0, h => exact h.1.elim
  | k + 1, h =>
    obtain ⟨j, h1, h2⟩ := crk_exists (h.1 hk i e he)
    exact ⟨j, by omega, h2⟩
theorem Cmp.congr {D : List De} {t u : Ty} (he : underT D t = underT D u) {b : Bool} (h : Cmp D t b) : Cmp D u b := by
  cases h with
  | no _ hk => exact .no u (by rw [← he]; exact hk)
  | yes _ hk => exact .yes u (by rw [← he]; exact hk)
  | all _ bs hk hl h => exact .all u bs (by rw [← he]; exact hk) (by rw [← he]; exact hl) (by rw [← he]; exact h)
theorem Cmp.det {D : List De} {t : Ty} {b : Bool} (h : Cmp D t b) : ∀ {c : Bool}, Cmp D t c → b = c := by
  induction h with
  | no t hk =>
    intro c h
    cases h with
    | no => rfl
    | yes _ k => omega
    | all _ _ k => omega
  | yes t hk =>
    intro c h
    cases h with
    | no _ k => omega
    | yes => rfl
    | all _ _ k => omega
  | all t bs hk hl _ ih =>
    intro c h
    cases h with
    | no _ k => omega
    | yes _ k => omega
    | all _ bs' k hl' h' =>
      have : bs = bs' := lists_eq _ _ (by omega) fun i a b ha hb => by
        have hlt := (List.getElem?_eq_some_iff.1 ha).1
        have he : (underT D t).elems[i]? = some (underT D t).elems[i] := List.getElem?_eq_getElem (by omega)
        exact ih i _ a he ha (h' i _ b he hb)
      rw [this]
/-- an array's element, a struct's fields -/
theorem Cmp.arr {D : List De} {t e : Ty} {b : Bool} (h : Cmp D t b) (hk : (underT D t).kind = 4) (he : (underT D t).elems = [e]) : Cmp D e b := by
  cases h with
  | no _ k => omega
  | yes _ k => omega
  | all _ bs _ hl h =>
    rw [he] at hl
    obtain ⟨c, rfl⟩ := List.length_eq_one_iff.1 (by simpa using hl)
    have := h 0 e c (by rw [he]; rfl) rfl
    simpa using this
theorem Cmp.str {D : List De} {t : Ty} {b : Bool} (h : Cmp D t b) (hk : (underT D t).kind = 7) : ∃ bs : List Bool, b = bs.all id ∧ bs.length = (underT D t).elems.length ∧ ∀ (i : Nat) e c, (underT D t).elems[i]? = some e → bs[i]? = some c → Cmp D e c := by
  cases h with
  | no _ k => omega
  | yes _ k => omega
  | all _ bs _ hl h => exact ⟨bs, rfl, hl, h⟩
end Go.Proofs.YtlemfkbhcleopaaGreatDoor
namespace Go.Proofs.YtlemfkbhcleopaaGreatDoor
open Go Go.Kd
set_option maxRecDepth 100000

theorem gk_under {D : List De} (hD : ShapedD D) {y y' : Ty} (h : gk y = gk y') (h0 : y.kind = 1 → 0 ≤ y.n ∧ y.n.toNat < D.length) (h0' : y'.kind = 1 → 0 ≤ y'.n ∧ y'.n.toNat < D.length) : underT D y = underT D y' := by
  unfold gk at h
  by_cases k : y.kind = 1
  · rw [if_pos k] at h
    have hel := List.getElem?_eq_getElem (h0 k).2
    by_cases k' : y'.kind = 1
    · rw [if_pos k'] at h
      have hn := tN_inj h
      have hel' := List.getElem?_eq_getElem (h0' k').2
      rw [under_tN hD k rfl hel, under_tN hD k' rfl hel', hn]
    · rw [if_neg k'] at h
      split at h
      · exact absurd (congrArg Ty.kind h) (show (1 : Int) ≠ 0 by decide)
      · exact absurd (by rw [← h]; rfl) k'
  · rw [if_neg k] at h
    by_cases e : y.kind = 0 ∧ y.n = 20
    · rw [if_pos e] at h
      by_cases k' : y'.kind = 1
      · rw [if_pos k'] at h
        exact absurd (congrArg Ty.kind h) (show (0 : Int) ≠ 1 by decide)
      · rw [if_neg k'] at h
        by_cases e' : y'.kind = 0 ∧ y'.n = 20
        · rw [under_err e.1 e.2, under_err e'.1 e'.2]
        · rw [if_neg e'] at h
          exact absurd (by rw [← h]; exact ⟨rfl, rfl⟩) e'
    · rw [if_neg e] at h
      by_cases k' : y'.kind = 1
      · rw [if_pos k'] at h
        exact absurd (by rw [h]; rfl) k
      · rw [if_neg k'] at h
        split at h
        · exact absurd (by rw [h]; exact ⟨rfl, rfl⟩) e
        · rw [h]
theorem dynX_al (x : X) : dynX x ≠ tAL := by
  unfold dynX
  split
  · split <;> decide
  · unfold dynK
    repeat' split
    all_goals decide
/-- what is behind a value -/
theorem RT.core {K : Cfg} {s : Gs} {w : World} (ic : IC K s w) {v : Value} {t : Ty} (h : RT K s w s.sl v t) (hg : Good K.D t) : ∃ (c : Nat) (y : Ty), s.g c = some (gk y) ∧ underT K.D t = underT K.D y ∧ (y.kind = 1 → 0 ≤ y.n ∧ y.n.toNat < K.D.length) ∧
    ((∃ T, T ≠ tAL ∧ PtrT Tryz.prog T ∧ CmpT Tryz.prog T ∧ v = .iface T (pt c) ∧ Pl w c) ∨ ∃ b o1 o2 o3 T, v = .iface tAL (pt b) ∧ Has w b (.cells #[o1, o2, o3, .iface T (pt c)] tAB)) := by
  obtain ⟨x, hx⟩ := hg.exp ic.ok
  cases ha : isAl K.D t with
  | false =>
    obtain ⟨b, h1, hp, h2⟩ := h.rootv ic ha (rdy_of hg) (exp_root (unalias_end ha) hx)
    exact ⟨b, t, h2, rfl, fun k => ⟨(rdy_of hg k).1, (rdy_of hg k).2.1⟩, .inl ⟨dynX x, dynX_al x, (dyn_ptr x).1, (dyn_ptr x).2, h1, hp⟩⟩
  | true =>
    have hk := isAl_kind ha
    obtain ⟨h0, h1, h2⟩ := rdy_of hg hk
    have hel := List.getElem?_eq_getElem h1
    have hal : (K.D[t.n.toNat]).al = true := by rw [← isAl_n hk hel]; exact ha
    obtain ⟨b, ob, T, c, v0, y, e, k1, k2, k3, k4, k5, k6, k7⟩ := ic.dc.al_ hel h2 hal (h.nam hk)
    have hu : unaliasT K.D t = norm y := by rw [unalias_step ic.ok.sh hk hel hal, ← k6, unalias_step ic.ok.sh (tN_kind _) (by rw [tN_n, Int.toNat_natCast]; exact hel) hal]
    have hy : Rdy K K.D.length y := fun hy => by
      obtain ⟨q0, q1⟩ := k7 hy
      exact ⟨q0, by omega, by omega⟩
    obtain ⟨d, g1, _, g2⟩ := k4.rootv ic k5 hy (exp_root hu hx)
    obtain rfl : c = d := by simpa using (Value.iface.inj g1).2
    refine ⟨c, y, g2, under_of_unalias ?_, fun k => ⟨(hy k).1, (hy k).2.1⟩, .inr ⟨b, _, _, _, T, e, k2⟩⟩
    rw [hu, unalias_end k5]
theorem RT.under_same {K : Cfg} {s : Gs} {w : World} (ic : IC K s w) {v : Value} {t t' : Ty} (h : RT K s w s.sl v t) (hg : Good K.D t) (h' : RT K s w s.sl v t') (hg' : Good K.D t') : underT K.D t = underT K.D t' := by
  obtain ⟨c, y, g, u, r, q⟩ := h.core ic hg
  obtain ⟨c', y', g', u', r', q'⟩ := h'.core ic hg'
  have hc : c = c' := by
    rcases q with ⟨T, hT, _, _, e, _⟩ | ⟨b, o1, o2, o3, T, e, hb⟩
    · rcases q' with ⟨T', hT', _, _, e', _⟩ | ⟨b', p1, p2, p3, T', e', hb'⟩
      · rw [e] at e'
        simpa using (Value.iface.inj e').2
      · rw [e] at e'
        exact absurd (Value.iface.inj e').1 hT
    · rcases q' with ⟨T', hT', _, _, e', _⟩ | ⟨b', p1, p2, p3, T', e', hb'⟩
      · rw [e] at e'
        exact absurd (Value.iface.inj e').1.symm hT'
      · rw [e] at e'
        obtain rfl : b = b' := by simpa using (Value.iface.inj e').2
        have f := hb.at_.symm.trans hb'.at_
        simp only [Option.some.injEq, Obj.cells.injEq, and_true] at f
        have f7 := congrArg Array.toList f
        simp only [List.cons.injEq, and_true] at f7
        obtain ⟨_, _, _, f8⟩ := f7
        simpa using (Value.iface.inj f8).2
  subst hc
  rw [g] at g'
  rw [u, u']
  exact gk_under ic.ok.sh (Option.some.inj g') r r'
end Go.Proofs.YtlemfkbhcleopaaGreatDoor
namespace Go.Kd
variable {P : Program} {e : Env} {w : World} {d : Option Tmp} {ty t t2 : TypeId} {pos : String} {aft : Array Edge} {g : Option (Nat × Bool)} {x y z : Operand}
/-- keys that are pointers -/
def PKey (w : World) (es : List MapEntry) : Prop := ∀ m ∈ es, ∃ T' a', m.key = .iface T' (.pointer (some a')) ∧ Pl w a'.block
theorem run_findKey_or {key T : TypeId} {ms : Array (String × TypeId)} [h : Und P key (.interface ms)] [hp : PtrT P T] [hc : CmpT P T] {a : Addr} (ha : Pl w a.block) {es : List MapEntry} (hn : PKey w es) :
    NoKey w T a es ∨ ∃ i m, m ∈ es ∧ m.key = .iface T (.pointer (some a)) ∧ (Instr.findKey key (.iface T (.pointer (some a))) es).run P w = .ok (some (i, m.val)) w := by
  have hask : ∀ (es : List MapEntry) (i : Nat), PKey w es → (∃ m ∈ es, m.key = .iface T (.pointer (some a))) → ∃ j m, m ∈ es ∧ m.key = .iface T (.pointer (some a)) ∧ (Instr.findAsking key (.iface T (.pointer (some a))) es i).run P w = .ok (some (j, m.val)) w := by
    intro es
    induction es with
    | nil => rintro i _ ⟨m, hm, _⟩; cases hm
    | cons m r ih =>
      rintro i hn ⟨m', hm', hk'⟩
      obtain ⟨T', a', h1, h2⟩ := hn m (List.mem_cons_self ..)
      by_cases hk : m.key = .iface T (.pointer (some a))
      · have heq : (Op.equal key (.iface T (.pointer (some a))) m.key).run P w = .ok true w := by
          rw [hk, run_equal_ifp ha ha]
          simp
        refine ⟨i, m, List.mem_cons_self .., hk, ?_⟩
        rw [Instr.findAsking]
        simp only [Sem.run_bind, heq, Result.andThen_ok]
        rfl
      · have heq : (Op.equal key (.iface T (.pointer (some a))) m.key).run P w = .ok false w := by
          rw [h1]
          by_cases hT : T' = T
          · subst hT
            rw [run_equal_ifp ha h2, decide_eq_false (fun e => hk (by rw [h1, e]))]
          · have hk : ∀ k : Nat, (Op.equalIn (k + 1) key (.iface T (.pointer (some a))) (.iface T' (.pointer (some a')))).run P w = .ok false w := fun k => by
              rw [Op.equalIn]
              simp [Sem.run_bind, run_underlying h.at_, Ne.symm hT]
            exact hk 9999
        obtain ⟨j, m2, k1, k2, k3⟩ := ih (i + 1) (fun m' hm' => hn m' (List.mem_cons_of_mem _ hm')) ⟨m', (List.mem_cons.1 hm').resolve_left fun e => hk (by rw [← e]; exact hk'), hk'⟩
        refine ⟨j, m2, List.mem_cons_of_mem _ k1, k2, ?_⟩
        rw [Instr.findAsking]
        simp only [Sem.run_bind, heq, Result.andThen_ok]
        exact k3
  by_cases hex : ∃ m ∈ es, m.key = .iface T (.pointer (some a))
  · right
    obtain ⟨j, m, k1, k2, k3⟩ := hask es 0 hn hex
    refine ⟨j, m, k1, k2, ?_⟩
    unfold Instr.findKey
    simp only [Sem.run_bind, run_underlying h.at_, Result.andThen_ok]
    cases es with
    | nil => cases k1
    | cons m0 r =>
      have : Instr.findNow (.interface ms) (.iface T (.pointer (some a))) (m0 :: r) 0 = none := by
        simp [Instr.findNow, Instr.sameNow]
      rw [this]
      exact k3
  · left
    intro m hm
    obtain ⟨T', a', h1, h2⟩ := hn m hm
    exact ⟨T', a', h1, h2, fun hT ha' => hex ⟨m, hm, by rw [h1, hT, ha']⟩⟩
theorem stp_lookup_yes {key el T : TypeId} {a : Addr} {r i : Nat} {u : Value} {es : Array MapEntry} {c : Nat} [hm : Und P t (.map key el)] {ms : Array (String × TypeId)} [h : Und P key (.interface ms)] [hp : PtrT P T] [hc : CmpT P T]
    (hx : ev e x = some (.map (some r))) (hy : ev e y = some (.iface T (.pointer (some a)))) (hr : Has w r (.map es c)) (hf : (Instr.findKey key (.iface T (.pointer (some a))) es.toList).run P w = .ok (some (i, u)) w) :
    Stp P e ⟨d, .lookup t x y false, ty, pos, aft, g⟩ w (fun v w' => v = u ∧ w = w') := ⟨fun ρ hρ => by
  simp [execOp, hρ x _ hx, hρ y _ hy, Instr.lookup, Sem.run_bind, run_underlying hm.at_, run_checkKey_ifp (P := P) (w := w) (key := key) (T := T), hf, run_getMap hr.at_]⟩
/-- the block behind a region, and the rest -/
def splitB : Code → Option (Code × Code)
  | .seq (.seq _ (.block i c)) b => some (.block i c, b)
  | .seq _ b => splitB b
  | _ => none
theorem W.useS {P : Program} {n : Nat} {Q : Post} {D : List Deferred} {e e' : Env} {w : World} {b c1' c2' : Code} (h : ∃ c1 c2, splitB b = some (c1, c2) ∧ W P n c1 (thn (W P n c2 Q) Q) D e' w) (hb : splitB b = some (c1', c2')) (hs : subs e e') : W P n c1' (thn (W P n c2' Q) Q) D e w := by
  obtain ⟨c1, c2, h1, h2⟩ := h
  cases h1.symm.trans hb
  exact h2.sub (sub_of hs)
end Go.Kd
namespace Go.Proofs.YtlemfkbhcleopaaGreatDoor
open Go Go.Kd
set_option maxRecDepth 100000

instance : Zv Tryz.prog 4 (.bool false) := zv_of (by kernel_rfl)
/-- nil, or an error -/
def Rz (v : Value) (b : Bool) : Prop := (b = true ∧ v = .pointer none) ∨ (b = false ∧ ∃ k, v = .pointer (some ⟨k, 0, none⟩))
theorem c_typeErrorf (s : ByteArray) (a : Option Addr) (l c : Nat) (w : World) :
    Calls Tryz.prog 129 #[.string s, .slice a l c] w (Ret fun r w' => (∃ k, r = .pointer (some ⟨k, 0, none⟩)) ∧ Ext w w') := by
  refine W.enter (args := [.string s, .slice a l c]) Tryz.func129 rfl Tryz.ntmps129 rfl rfl ?_
  refine zst ?_
  generalize (s.toList == ({ data := #[] } : ByteArray).toList) = q
  cases q
  · refine zst ?_
    refine WU.stp rfl rfl rfl (by first | exact stp_box rfl rfl | exact stp_box1 rfl rfl) ?_
    rintro _ w1 ⟨b1, rfl, n1⟩
    refine zst ?_
    exact fin1 (.inl rfl) rfl rfl ⟨⟨b1, rfl⟩, n1.ext⟩
  · refine zst ?_
    refine WU.stp rfl rfl rfl stp_alloc ?_
    rintro _ w1 ⟨b1, rfl, n1⟩
    refine zst ?_
    exact fin1 (.inl rfl) rfl rfl ⟨⟨b1, rfl⟩, n1.ext⟩
theorem RT.val {K : Cfg} {s : Gs} {w : World} (ic : IC K s w) {v : Value} {t : Ty} (h : RT K s w s.sl v t) (hg : Good K.D t) : ∃ T b, v = .iface T (pt b) ∧ PtrT Tryz.prog T ∧ CmpT Tryz.prog T ∧ Pl w b := by
  obtain ⟨c, y, _, _, _, q⟩ := h.core ic hg
  rcases q with ⟨T, _, h1, h2, h3, h4⟩ | ⟨b, o1, o2, o3, T, h1, h2⟩
  · exact ⟨T, c, h3, h1, h2, h4⟩
  · exact ⟨tAL, b, h1, inferInstance, inferInstance, ⟨_, _, h2.at_⟩⟩
/-- what was seen: comparable types, and such that hold more -/
def SeenT (K : Cfg) (s : Gs) (w : World) (k : Nat) (es : Array MapEntry) : Prop := ∀ m ∈ es.toList, ∃ t, RT K s w s.sl m.key t ∧ Good K.D t ∧ m.val = .bool true ∧ (Cmp K.D t true ∨ ¬ cR K.D k t)
theorem SeenT.le {K : Cfg} {s : Gs} {w : World} {k j : Nat} {es : Array MapEntry} (h : SeenT K s w k es) (hj : j ≤ k) : SeenT K s w j es := fun m hm => by
  obtain ⟨t, h1, h2, h3, h4⟩ := h m hm
  exact ⟨t, h1, h2, h3, h4.imp id fun h hr => h (cR_le hj hr)⟩
theorem SeenT.push {K : Cfg} {s : Gs} {w : World} {k : Nat} {es : Array MapEntry} (h : SeenT K s w k es) {v : Value} {t : Ty} {c : Nat} (hr : RT K s w s.sl v t) (hg : Good K.D t) (hc : Cmp K.D t true ∨ ¬ cR K.D k t) : SeenT K s w k (es.push ⟨v, .bool true, c⟩) := fun m hm => by
  rw [Array.toList_push, List.mem_append, List.mem_singleton] at hm
  rcases hm with hm | rfl
  · exact h m hm
  · exact ⟨t, hr, hg, rfl, hc⟩
theorem SeenT.pk {K : Cfg} {s : Gs} {w w' : World} (ic : IC K s w) (x : Ext w w') {k : Nat} {es : Array MapEntry} (h : SeenT K s w k es) : PKey w' es.toList := fun m hm => by
  obtain ⟨t, h1, h2, _⟩ := h m hm
  obtain ⟨T, b, e, _, _, hp⟩ := h1.val ic h2
  exact ⟨T, _, e, hp.ext' x⟩
/-- more: comparable types alone -/
def Adds (K : Cfg) (s : Gs) (w : World) (es es' : Array MapEntry) : Prop := ∀ m ∈ es'.toList, m ∈ es.toList ∨ ∃ t, RT K s w s.sl m.key t ∧ Good K.D t ∧ m.val = .bool true ∧ Cmp K.D t true
theorem Adds.rfl' {K : Cfg} {s : Gs} {w : World} (es : Array MapEntry) : Adds K s w es es := fun _ hm => .inl hm
theorem Adds.trans {K : Cfg} {s : Gs} {w : World} {e1 e2 e3 : Array MapEntry} (h : Adds K s w e1 e2) (h' : Adds K s w e2 e3) : Adds K s w e1 e3 := fun m hm => (h' m hm).elim (h m) .inr
theorem Adds.push {K : Cfg} {s : Gs} {w : World} {es : Array MapEntry} {v : Value} {t : Ty} {c : Nat} (hr : RT K s w s.sl v t) (hg : Good K.D t) (hc : Cmp K.D t true) : Adds K s w es (es.push ⟨v, .bool true, c⟩) := fun m hm => by
  rw [Array.toList_push, List.mem_append, List.mem_singleton] at hm
  rcases hm with hm | rfl
  · exact .inl hm
  · exact .inr ⟨t, hr, hg, rfl, hc⟩
theorem SeenT.adds {K : Cfg} {s : Gs} {w : World} {k : Nat} {es es' : Array MapEntry} (h : SeenT K s w k es) (h' : Adds K s w es es') : SeenT K s w k es' := fun m hm => by
  rcases h' m hm with hm | ⟨t, h1, h2, h3, h4⟩
  · exact h m hm
  · exact ⟨t, h1, h2, h3, .inl h4⟩
/-- what comparableType does -/
abbrev CtR (K : Cfg) (s : Gs) (w0 : World) (r : Nat) (q : Bool) (es : Array MapEntry) (z : Value) (w' : World) : Prop := Rz z q ∧ Ext w0 w' ∧ (q = true → ∃ es' c', Has w' r (.map es' c') ∧ Adds K s w0 es es')
def CtC (K : Cfg) (s : Gs) (w0 : World) (k : Nat) (t : Ty) (q : Bool) : Prop := ∀ (v : Value) (w : World) (r c : Nat) (es : Array MapEntry), RT K s w0 s.sl v t → Ext w0 w → w0.heap.size ≤ r → Has w r (.map es c) → SeenT K s w0 k es →
  Calls Tryz.prog 83 #[v, .bool true, .map (some r)] w (Ret (CtR K s w0 r q es))
/-- .. behind the look at what underlies the type -/
def CtT (K : Cfg) (s : Gs) (w0 w : World) (v u : Value) (r : Nat) (q : Bool) (es : Array MapEntry) : Prop := ∃ c1 c2, splitB (bodyA Tryz.f83) = some (c1, c2) ∧ W Tryz.prog 106 c1 (thn (W Tryz.prog 106 c2 (fin Tryz.prog Tryz.f83 (Ret (CtR K s w0 r q es)))) (fin Tryz.prog Tryz.f83 (Ret (CtR K s w0 r q es)))) [] [(0, v), (1, .bool true), (2, .map (some r)), (25, u)] w
section
variable {K : Cfg} {s : Gs} {w0 w : World} {v : Value} {r b cc : Nat} {q : Bool} {es es' : Array MapEntry} {t y : Ty}
theorem ct_basic {n i : Int} {nb : ByteArray} (hb : Has w b (.cells #[.int .i64 n, .int .i64 i, .string nb] 190)) (hn : n ≠ 25) (x : Ext w0 w) (hm : Has w r (.map es' cc)) (ha : Adds K s w0 es es') : CtT K s w0 w v (.iface 135 (pt b)) r true es := by
  refine ⟨_, _, rfl, ?_⟩
  refine zst ?_
  rw [show (n == 25) = false by simpa using hn]
  refine zst ?_
  exact fin1 (.inl rfl) rfl rfl ⟨.inl ⟨rfl, rfl⟩, x, fun _ => ⟨es', cc, hm, ha⟩⟩
theorem ct_ptr (x : Ext w0 w) (hm : Has w r (.map es' cc)) (ha : Adds K s w0 es es') : CtT K s w0 w v (.iface 109 (pt b)) r true es := by
  refine ⟨_, _, rfl, ?_⟩
  refine zst ?_
  exact fin1 (.inl rfl) rfl rfl ⟨.inl ⟨rfl, rfl⟩, x, fun _ => ⟨es', cc, hm, ha⟩⟩
theorem ct_chan (x : Ext w0 w) (hm : Has w r (.map es' cc)) (ha : Adds K s w0 es es') : CtT K s w0 w v (.iface 164 (pt b)) r true es := by
  refine ⟨_, _, rfl, ?_⟩
  refine zst ?_
  exact fin1 (.inl rfl) rfl rfl ⟨.inl ⟨rfl, rfl⟩, x, fun _ => ⟨es', cc, hm, ha⟩⟩
theorem ct_no {T : Nat} (hT : T = 158 ∨ T = 162 ∨ T = 115) (x : Ext w0 w) : CtT K s w0 w v (.iface T (pt b)) r false es := by
  rcases hT with rfl | rfl | rfl
  all_goals
    refine ⟨_, _, rfl, ?_⟩
    refine zst ?_
    refine WU.stp rfl rfl rfl (stp_call rfl (c_typeErrorf _ _ _ _ w)) ?_
    rintro _ w2 ⟨⟨k, rfl⟩, x2⟩
    refine zst ?_
    exact fin1 (.inl rfl) rfl rfl ⟨.inr ⟨rfl, k, rfl⟩, x.trans x2, fun h => by cases h⟩
theorem ct_if (ic : IC K s w) (hv : RT K s w s.sl v t) (hg : Good K.D t) (x : Ext w0 w) (hm : Has w r (.map es' cc)) (ha : Adds K s w0 es es') : CtT K s w0 w v (.iface 72 (pt b)) r true es := by
  refine ⟨_, _, rfl, ?_⟩
  refine zst ?_
  refine WU.stp rfl rfl rfl (stp_call rfl (c_isTypeParam ic.ok.sh ic.dc ic.er hv (rdy_of hg))) ?_
  rintro _ _ ⟨rfl, rfl⟩
  refine zst ?_
  exact fin1 (.inl rfl) rfl rfl ⟨.inl ⟨rfl, rfl⟩, x, fun _ => ⟨es', cc, hm, ha⟩⟩
set_option maxHeartbeats 2000000 in
theorem ct_arr {n : Int} {u : Value} {e : Ty} {j : Nat} (ih : CtC K s w0 j e q) (hu : RT K s w0 s.sl u e) (hb : Has w b (.cells #[.int .i64 n, u] 193)) (x : Ext w0 w) (hr : w0.heap.size ≤ r) (hm : Has w r (.map es' cc)) (hs : SeenT K s w0 j es') (ha : q = true → Adds K s w0 es es') {Tv bv : Nat} : CtT K s w0 w (.iface Tv (pt bv)) (.iface 160 (pt b)) r q es := by
  refine ⟨_, _, rfl, ?_⟩
  refine zst ?_
  refine WU.stp rfl rfl rfl (stp_call rfl (ih u w r cc es' hu x hr hm hs)) ?_
  rintro z w2 ⟨hz, x2, h2⟩
  rcases hz with ⟨rfl, rfl⟩ | ⟨rfl, k, rfl⟩
  · obtain ⟨es2, c2, h3, h4⟩ := h2 rfl
    refine zst ?_
    exact fin1 (.inl rfl) rfl rfl ⟨.inl ⟨rfl, rfl⟩, x2, fun _ => ⟨es2, c2, h3, (ha rfl).trans h4⟩⟩
  · refine zst ?_
    refine WU.stp rfl rfl rfl (stp_buildSlice rfl rfl rfl rfl rfl) ?_
    rintro _ w3 ⟨b3, rfl, n3⟩
    refine zst ?_
    refine WU.stp rfl rfl rfl (stp_call rfl (c_typeErrorf _ _ _ _ w3)) ?_
    rintro _ w4 ⟨⟨k4, rfl⟩, x4⟩
    refine zst ?_
    exact fin1 (.inl rfl) rfl rfl ⟨.inr ⟨rfl, k4, rfl⟩, x2.trans (n3.ext.trans x4), fun h => by cases h⟩
set_option maxHeartbeats 4000000 in
theorem ct_str {fa ta : Option Addr} {fc tc : Nat} {vb : Nat → Nat} {vv : Nat → Value} {l : List Ty} {bs : List Bool} {k : Nat} {pk : Value} (ic0 : IC K s w0) (hl : bs.length = l.length) (hlen : l.length ≤ 16777216) (ih : ∀ (i : Nat) e c, l[i]? = some e → bs[i]? = some c → Good K.D e ∧ ∃ j, j < k ∧ CtC K s w0 j e c) (hu : ∀ (i : Nat) e, l[i]? = some e → RT K s w0 s.sl (vv i) e ∧ VarV w0 (vb i) pk e.name (vv i) 6 e.emb) (hq : RowQ w0 s.sl 111 fa l.length vb)
    (hb : Has w0 b (.cells #[.slice fa l.length fc, .slice ta l.length tc] 199)) (x : Ext w0 w) (hr : w0.heap.size ≤ r) (hm : Has w r (.map es' cc)) (hs : ∀ j, j < k → SeenT K s w0 j es') (ha : bs.all id = true → Adds K s w0 es es') {Tv bv : Nat} : CtT K s w0 w (.iface Tv (pt bv)) (.iface 170 (pt b)) r (bs.all id) es := by
  refine ⟨_, _, rfl, ?_⟩
  have hb1 := hb.ext' x
  refine zst ?_
  refine W.loop (σ := Nat) (fun i => [(51, .int .i64 i), (50, .int .i64 l.length), (49, .slice fa l.length fc), (1, .bool true), (2, .map (some r)), (0, .iface Tv (pt bv))])
    (fun i D' wi => D' = [] ∧ i ≤ l.length ∧ Ext w0 wi ∧ (∀ (j : Nat) c, j < i → bs[j]? = some c → c = true) ∧ ∃ ei ci, Has wi r (.map ei ci) ∧ Adds K s w0 es' ei)
    (fun i => l.length - i) 0 ⟨rfl, Nat.zero_le _, x, fun j c h => by omega, es', cc, hm, .rfl' es'⟩ (by exact sub_of ⟨rfl, rfl, rfl, rfl, rfl, rfl, trivial⟩) ?_
  rintro i D' wi ⟨rfl, hi, xi, hall, ei, ci, hmi, hai⟩
  refine zst ?_
  by_cases hlt : i < l.length
  · rw [show decide ((i : Int) < (l.length : Int)) = true by simpa using hlt]
    obtain ⟨e, he⟩ : ∃ e, l[i]? = some e := ⟨_, List.getElem?_eq_getElem hlt⟩
    obtain ⟨c, hc⟩ : ∃ c, bs[i]? = some c := ⟨_, List.getElem?_eq_getElem (by omega)⟩
    obtain ⟨hg, j, hj, hI⟩ := ih i e c he hc
    obtain ⟨hrt, hvv⟩ := hu i e he
    obtain ⟨rb, rfl, _, hrc⟩ := hq.cell hlt
    obtain ⟨Te, be, hve, _, _, _⟩ := hrt.val ic0 hg
    have fv : Has wi (vb i) (.cells #[.int .i64 0, pk, .string e.name, vv i, .int .u8 6, .bool e.emb] 201) := hvv.ext' xi
    rw [hve] at fv hrt
    refine zst ?_
    refine WU.yld rfl rfl rfl (yld_load_c rfl (xi.cell hrc)) ?_
    refine zst ?_
    refine WU.stp rfl rfl rfl (stp_call rfl (hI (.iface Te (pt be)) wi r ci ei hrt xi hr hmi ((hs j hj).adds hai))) ?_
    rintro z w2 ⟨hz, x2, h2⟩
    rcases hz with ⟨rfl, rfl⟩ | ⟨rfl, k2, rfl⟩
    · obtain ⟨e2, c2, h3, h4⟩ := h2 rfl
      refine zst ?_
      refine ⟨i + 1, by show l.length - (i + 1) < l.length - i; omega, ⟨rfl, by omega, x2, fun j' c' hj' hc' => ?_, e2, c2, h3, hai.trans h4⟩, sub_of ⟨rfl, rfl, rfl, rfl, rfl, rfl, trivial⟩⟩
      rcases Nat.lt_or_ge j' i with h | h
      · exact hall j' c' h hc'
      · obtain rfl : j' = i := by omega
        rw [hc] at hc'
        cases hc'
        rfl
    · have fv2 : Has w2 (vb i) (.cells #[.int .i64 0, pk, .string e.name, .iface Te (pt be), .int .u8 6, .bool e.emb] 201) := by
        have := hvv.ext' x2
        rwa [hve] at this
      have hf : bs.all id = false := by
        rw [List.all_eq_false]
        exact ⟨false, List.mem_of_getElem? hc, by simp⟩
      refine zst ?_
      refine WU.stp rfl rfl rfl (stp_buildSlice rfl rfl rfl rfl rfl) ?_
      rintro _ w3 ⟨b3, rfl, n3⟩
      refine WU.stp rfl rfl rfl (stp_call rfl (c_typeErrorf _ _ _ _ w3)) ?_
      rintro _ w4 ⟨⟨k4, rfl⟩, x4⟩
      refine zst ?_
      exact fin1 (.inl rfl) rfl rfl ⟨.inr ⟨hf, k4, rfl⟩, x2.trans (n3.ext.trans x4), fun h => by rw [hf] at h; cases h⟩
  · rw [show decide ((i : Int) < (l.length : Int)) = false by simpa using hlt]
    have ht : bs.all id = true := by
      rw [List.all_eq_true]
      intro c hc
      obtain ⟨j, hj⟩ := List.getElem?_of_mem hc
      exact hall j c (by have := (List.getElem?_eq_some_iff.1 hj).1; omega) hj
    refine zst ?_
    exact fin1 (.inl rfl) rfl rfl ⟨.inl ⟨ht, rfl⟩, xi, fun _ => ⟨ei, ci, hmi, (ha ht).trans hai⟩⟩
end
end Go.Proofs.YtlemfkbhcleopaaGreatDoor
namespace Go.Proofs.YtlemfkbhcleopaaGreatDoor
open Go Go.Kd

structure Eqv (t u : Ty) : Prop where
  kd : t.kind = u.kind
  n : t.n = u.n
  c : t.count = u.count
  v : t.vr = u.vr
  el : t.elems = u.elems
theorem Eqv.rfl' (t : Ty) : Eqv t t := ⟨rfl, rfl, rfl, rfl, rfl⟩
/-- a type as an element -/
def elT (t : Ty) : Ty := .mk t.kind t.n t.count t.vr t.elems eB eB false
theorem Eqv.elT (t : Ty) : Eqv t (elT t) := ⟨rfl, rfl, rfl, rfl, rfl⟩
theorem wt_elT (t : Ty) : wt (elT t) ≤ wt t := by rw [wt_eq t, wt_eq]; show 1 + (0 + 0) + _ ≤ _; simp only [_root_.Go.Proofs.YtlemfkbhcleopaaGreatDoor.elT, Ty.elems]; omega
theorem Eqv.decl {D : List De} {t u : Ty} (h : Eqv t u) : decl D t = decl D u := by unfold Go.Proofs.YtlemfkbhcleopaaGreatDoor.decl; rw [h.kd, h.n]
theorem Eqv.isAl {D : List De} {t u : Ty} (h : Eqv t u) : isAl D t = isAl D u := by unfold Go.Proofs.YtlemfkbhcleopaaGreatDoor.isAl; rw [h.decl]
theorem Eqv.unal1 {D : List De} {t u : Ty} (h : Eqv t u) : Eqv (unal1 D t) (unal1 D u) := by
  unfold Go.Proofs.YtlemfkbhcleopaaGreatDoor.unal1
  rw [h.decl]
  split
  · split
    · exact .rfl' _
    · exact h
  · exact h
theorem Eqv.rep {f : Ty → Ty} (hf : ∀ {t u : Ty}, Eqv t u → Eqv (f t) (f u)) {t u : Ty} (h : Eqv t u) : ∀ k, Eqv (rep f k t) (rep f k u)
  | 0 => h
  | k + 1 => hf (Eqv.rep hf h k)
theorem Eqv.norm {t u : Ty} (h : Eqv t u) : Eqv (norm t) (norm u) := by
  unfold Go.Proofs.YtlemfkbhcleopaaGreatDoor.norm
  rw [h.kd, h.n]
  obtain ⟨k, n, c, v, l, s, g, e⟩ := t
  obtain ⟨k', n', c', v', l', s', g', e'⟩ := u
  obtain ⟨h1, h2, h3, h4, h5⟩ := h
  simp only [Ty.kind, Ty.n, Ty.count, Ty.vr, Ty.elems] at h1 h2 h3 h4 h5
  subst h1 h2 h3 h4 h5
  repeat' split
  all_goals exact ⟨rfl, rfl, rfl, rfl, rfl⟩
theorem Eqv.unalias {D : List De} {t u : Ty} (h : Eqv t u) : Eqv (unaliasT D t) (unaliasT D u) := (Eqv.rep Eqv.unal1 h _).norm
theorem Eqv.und1 {D : List De} {t u : Ty} (h : Eqv t u) : Eqv (und1 D t) (und1 D u) := by
  unfold Go.Proofs.YtlemfkbhcleopaaGreatDoor.und1
  rw [h.decl]
  split
  · exact .rfl' _
  · exact h
theorem Eqv.errN {t u : Ty} (h : Eqv t u) : Eqv (errN t) (errN u) := by
  unfold Go.Proofs.YtlemfkbhcleopaaGreatDoor.errN
  rw [h.kd, h.n]
  split
  · exact .rfl' _
  · exact h
theorem Eqv.under {D : List De} {t u : Ty} (h : Eqv t u) : Eqv (underT D t) (underT D u) := (Eqv.rep Eqv.und1 h.unalias _).errN
theorem Eqv.im {D : List De} {t u : Ty} (h : Eqv t u) {ms : List Mt} (hm : IM D t ms) : IM D u ms := by
  have hu := h.under (D := D)
  cases hm with
  | no _ hk => exact .no u (by rw [← hu.kd]; exact hk)
  | yes _ L h9 hl h1 h2 =>
    rw [hu.c]
    rw [hu.kd] at h9
    rw [hu.el] at hl
    rw [hu.c, hu.el, hu.n] at h1
    rw [hu.c, hu.el] at h2
    exact .yes u L h9 hl h1 h2
theorem Eqv.shaped {D : List De} {i : Nat} {v : Bool} {t u : Ty} (h : Eqv t u) (hs : Shaped D i v t) : Shaped D i v u := by
  have s := hs.shape
  refine .mk v u ⟨by rw [← h.kd]; exact s.lo, by rw [← h.kd]; exact s.hi, by rw [← h.kd, ← h.el]; exact s.len, by rw [← h.kd, ← h.n]; exact s.n0, by rw [← h.kd, ← h.n]; exact s.n1, by rw [← h.kd, ← h.n, ← h.isAl]; exact s.nm, by rw [← h.kd, ← h.c]; exact s.c0, by rw [← h.kd, ← h.c, ← h.el]; exact s.c1,
    by rw [← h.kd, ← h.v, ← h.c, ← h.el]; exact s.vr, by rw [← h.kd, ← h.c, ← h.el]; exact s.mth⟩ fun j e he => ?_
  rw [← h.el] at he
  have := hs.el j e he
  unfold holdsT at this ⊢
  rw [← h.kd, ← h.c]
  exact this
theorem Eqv.cons {D : List De} {t u : Ty} (h : Eqv t u) {all : List Mt} (c : Cons D t all) : Cons D u all := by
  obtain ⟨h1, h2, h3⟩ := c
  rw [h.el, h.c] at h2 h3
  exact ⟨h.im h1, h2, h3⟩
theorem Eqv.legal {D : List De} {t u : Ty} (h : Eqv t u) (hl : Legal D t) : Legal D u := by
  refine .mk u (fun i e he => hl.el i e (by rw [h.el]; exact he)) ?_
  obtain ⟨h1, h2, h3, h4, h5, h6, h7, h8⟩ := hl.here
  rw [h.kd] at h1 h2 h3 h4 h5 h6 h7 h8
  rw [h.el] at h1 h2 h3 h4 h5 h6 h7
  rw [h.c] at h4 h5 h6 h7
  exact ⟨h1, h2, h3, h4, h5, h6, h7, fun k => by obtain ⟨all, ha⟩ := h8 k; exact ⟨all, h.cons ha⟩⟩
theorem Eqv.cmp {D : List De} {t u : Ty} (h : Eqv t u) {b : Bool} (hc : Cmp D t b) : Cmp D u b := by
  have hu := h.under (D := D)
  cases hc with
  | no _ hk => exact .no u (by rw [← hu.kd]; exact hk)
  | yes _ hk => exact .yes u (by rw [← hu.kd]; exact hk)
  | all _ bs hk hl he =>
    rw [hu.kd] at hk
    rw [hu.el] at hl he
    exact .all u bs hk hl he

theorem Shaped.any {D : List De} {v : Bool} {t : Ty} (h : Shaped D D.length v t) : ∀ v', Shaped D D.length v' t := by
  generalize hi : D.length = i at h
  induction h with
  | mk v t s _ ih =>
    intro v'
    refine .mk v' t ⟨s.lo, s.hi, s.len, s.n0, s.n1, fun hk _ => ?_, s.c0, s.c1, s.vr, s.mth⟩ fun j e he => ih j e he _
    have := s.n1 (by rw [hk]; simp [limitN])
    rw [hk] at this
    simp [limitN] at this
    omega

/-- a type of this kind, of these elements -/
def ndT (k n : Int) (l : List Ty) : Ty := .mk k n 0 false l eB eB false
theorem wt_nd (k n : Int) (l : List Ty) : wt (ndT k n l) = 1 + wts l := by rw [wt_eq]; simp only [ndT, Ty.elems, Ty.name, Ty.tag]; rfl
theorem valid_nd1 {D : List De} {k n : Int} {t : Ty} (hk : k = 2 ∨ k = 3 ∨ (k = 4 ∧ 0 ≤ n) ∨ (k = 6 ∧ 0 ≤ n ∧ n < 3)) (h : ValidT D t) : ValidT D (ndT k n [elT t]) := by
  have he : ∀ (j : Nat) e, (ndT k n [elT t]).elems[j]? = some e → e = elT t := fun j e he => by
    have he : [elT t][j]? = some e := he
    match j with
    | 0 => simpa using he.symm
    | j + 1 => simp at he
  have hke : (ndT k n [elT t]).kind = k := rfl
  have hn : (ndT k n [elT t]).n = n := rfl
  refine ⟨.mk _ _ ⟨by omega, by omega, fun _ => ?_, fun hl => ?_, fun hl => ?_, fun _ => by omega, fun _ => by omega, fun _ => by omega, fun _ => by omega, fun _ => by omega⟩ fun j e hj => ?_, .mk _ (fun j e hj => ?_) ⟨fun _ => by omega, fun _ => by omega, fun _ => by omega, fun _ => by omega, fun _ => by omega, fun _ => by omega, fun _ => by omega, fun _ => by omega⟩⟩
  · rw [hke]; rcases hk with rfl | rfl | ⟨rfl, _⟩ | ⟨rfl, _⟩ <;> rfl
  · rw [hke] at hl; rw [hn]
    rcases hk with rfl | rfl | ⟨rfl, h⟩ | ⟨rfl, h, _⟩
    · simp [limitN] at hl
    · simp [limitN] at hl
    · exact h
    · exact h
  · rw [hke] at hl ⊢; rw [hn]
    rcases hk with rfl | rfl | ⟨rfl, _⟩ | ⟨rfl, _, h⟩
    · simp [limitN] at hl
    · simp [limitN] at hl
    · simp [limitN] at hl
    · simpa [limitN] using h
  · rw [he j e hj]; exact ((Eqv.elT t).shaped h.sh).any _
  · rw [he j e hj]; exact (Eqv.elT t).legal h.lg
theorem valid_map {D : List De} {k t : Ty} (hk : ValidT D k) (hc : Cmp D k true) (h : ValidT D t) : ValidT D (ndT 5 0 [elT k, elT t]) := by
  have he : ∀ (j : Nat) e, (ndT 5 0 [elT k, elT t]).elems[j]? = some e → e = elT k ∨ e = elT t := fun j e he => by
    have he : [elT k, elT t][j]? = some e := he
    match j with
    | 0 => exact .inl (by simpa using he.symm)
    | 1 => exact .inr (by simpa using he.symm)
    | j + 2 => simp at he
  have hke : (ndT 5 0 [elT k, elT t]).kind = 5 := rfl
  refine ⟨.mk _ _ ⟨by omega, by omega, fun _ => rfl, fun hl => ?_, fun hl => ?_, fun _ => by omega, fun _ => by omega, fun _ => by omega, fun _ => by omega, fun _ => by omega⟩ fun j e hj => ?_, .mk _ (fun j e hj => ?_) ⟨fun _ e h0 => ?_, fun _ => by omega, fun _ => by omega, fun _ => by omega, fun _ => by omega, fun _ => by omega, fun _ => by omega, fun _ => by omega⟩⟩
  · rw [hke] at hl; simp [limitN] at hl
  · rw [hke] at hl; simp [limitN] at hl
  · rcases he j e hj with rfl | rfl
    · exact ((Eqv.elT k).shaped hk.sh).any _
    · exact ((Eqv.elT t).shaped h.sh).any _
  · rcases he j e hj with rfl | rfl
    · exact (Eqv.elT k).legal hk.lg
    · exact (Eqv.elT t).legal h.lg
  · have h0 : [elT k, elT t][0]? = some e := h0
    obtain rfl : elT k = e := by simpa using h0
    exact (Eqv.elT k).cmp hc
end Go.Proofs.YtlemfkbhcleopaaGreatDoor
namespace Go.Proofs.YtlemfkbhcleopaaGreatDoor
open Go Go.Kd

theorem ValidT.good {D : List De} {t : Ty} (h : ValidT D t) (hw : wt t ≤ 16777216) : Good D t := ⟨⟨_, _, Nat.le_refl _, h.sh⟩, hw⟩

/-- a function type with these parameters and results -/
def fnT (ins outs : List Ty) (vr : Bool) : Ty := .mk 8 0 ins.length vr ((ins ++ outs).map elT) eB eB false
theorem wts_elT : ∀ l : List Ty, wts (l.map elT) ≤ wts l
  | [] => Nat.le_refl _
  | t :: r => by have := wts_elT r; have := wt_elT t; simp only [List.map_cons, wts]; omega
theorem wts_app : ∀ l k : List Ty, wts (l ++ k) = wts l + wts k
  | [], k => by simp [wts]
  | t :: r, k => by simp only [List.cons_append, wts, wts_app r k]; omega
theorem wt_fn (ins outs : List Ty) (vr : Bool) : wt (fnT ins outs vr) ≤ 1 + (wts ins + wts outs) := by
  rw [wt_eq]
  have := wts_elT (ins ++ outs)
  rw [wts_app] at this
  show 1 + (0 + 0) + wts ((ins ++ outs).map elT) ≤ _
  omega
theorem names_elT (l : List Ty) : unnamedT (l.map elT) := fun t ht => by
  obtain ⟨u, _, rfl⟩ := List.mem_map.1 ht
  show (eB : ByteArray).toList = []
  rw [Lib.toList_data]
end Go.Proofs.YtlemfkbhcleopaaGreatDoor
namespace Go.Proofs.YtlemfkbhcleopaaGreatDoor
open Go Go.Kd
set_option maxRecDepth 100000

theorem bk_ne {n : Int} (h0 : 0 ≤ n) (h1 : n < 20) : bk n ≠ 25 := by
  unfold bk
  repeat' split
  all_goals omega
/-- from the note that a type was seen on -/
def CtN (K : Cfg) (s : Gs) (w0 w : World) (v : Value) (r : Nat) (q : Bool) (es : Array MapEntry) : Prop := ∃ c, dropA 5 (bodyA Tryz.f83) = some c ∧ W Tryz.prog 106 c (fin Tryz.prog Tryz.f83 (Ret (CtR K s w0 r q es))) [] [(0, v), (1, .bool true), (2, .map (some r))] w
theorem good_lit {D : List De} (hD : OkD D) {t y : Ty} (hg : Good D t) (hu : underT D t = norm y) (hk : y.kind ≠ 0) : Good D y := by
  have := hg.under hD
  rw [hu, norm_named hk] at this
  exact this
set_option maxHeartbeats 2000000 in
theorem ct_new {K : Cfg} {s : Gs} {w0 w : World} {k r cc T b : Nat} {q : Bool} {es : Array MapEntry} {t : Ty} (ic : IC K s w0) (hsl : ∀ d, s.sl d → d < w0.heap.size) (ih : ∀ j, j < k → ∀ (e : Ty) (c : Bool), crk K.D e j → Good K.D e → Cmp K.D e c → CtC K s w0 j e c)
    (hk : crk K.D t k) (hg : Good K.D t) (hc : Cmp K.D t q) (hv : RT K s w0 s.sl (.iface T (pt b)) t) [hp1 : PtrT Tryz.prog T] [hp2 : CmpT Tryz.prog T] (hpl : Pl w0 b) (x : Ext w0 w) (hr : w0.heap.size ≤ r) (hm : Has w r (.map es cc)) (hs : SeenT K s w0 k es) (hno : NoKey w T ⟨b, 0, none⟩ es.toList) : CtN K s w0 w (.iface T (pt b)) r q es := by
  refine ⟨_, rfl, ?_⟩
  have hpl' := hpl.ext' x
  refine zst ?_
  refine WU.stp0 rfl rfl (stp_mapNew rfl rfl rfl hm hpl' hno) ?_
  rintro _ w1 u1
  have x1 := u1.ext x hr
  have hm1 := u1.has
  have ic1 := ic.ext x1
  refine zst ?_
  refine WU.stp rfl rfl rfl (stp_und ic.ok.sh ic1.dc ic1.er (hv.ext x1) (rdy_of hg) rfl) ?_
  rintro _ _ ⟨rfl, y, hy1, hyl, hyu, T2, b2, rfl⟩
  have hy : RT K s w0 s.sl (.iface T2 (pt b2)) y := (hy1.mono fun d _ hd => hd.elim id id).same fun d hd => (x1.below.block d (hsl d hd)).symm
  clear hy1
  (repeat ((fail_if_success guard_target =~ gW (.block _ _)); refine zs1 ?_))
  have hadd : q = true → Adds K s w0 es (es.push ⟨.iface T (pt b), .bool true, cc⟩) := fun h => by
    subst h
    exact .push hv hg hc
  have hseen : ∀ j, j < k → SeenT K s w0 j (es.push ⟨.iface T (pt b), .bool true, cc⟩) := fun j hj => (hs.le (by omega)).push hv hg (.inr (hk.2 j hj))
  have yes : ∀ {z : Prop}, ((underT K.D t).kind = 0 ∨ (underT K.D t).kind = 1 ∨ (underT K.D t).kind = 2 ∨ (underT K.D t).kind = 6 ∨ (underT K.D t).kind = 9) → (q = true → z) → z := fun h1 h2 => h2 (hc.det (.yes t h1))
  have no : ∀ {z : Prop}, ((underT K.D t).kind = 3 ∨ (underT K.D t).kind = 5 ∨ (underT K.D t).kind = 8) → (q = false → z) → z := fun h1 h2 => h2 (hc.det (.no t h1))
  have tail : ∀ u, RT K s w0 s.sl u y → u = .iface T2 (pt b2) → CtT K s w0 w1 (.iface T (pt b)) (.iface T2 (pt b2)) r q es := by
    intro u hy hue
    cases hy with
    | basic _ _ i nb h0 h1 h2 hp h3 h4 =>
      cases hue
      have hk0 : (underT K.D t).kind = 0 := by
        rw [hyu]
        rcases norm_cases y with ⟨h, _⟩ | ⟨_, h, _⟩ | ⟨_, h, _⟩
        · exact absurd h0 h
        · exact h
        · omega
      refine yes (.inl hk0) fun hq => ?_
      subst hq
      exact ct_basic (h3.ext' x1) (bk_ne h1 h2) x1 hm1 (hadd rfl)
    | error _ h0 h1 => exact absurd ⟨h0, h1⟩ hyl.2
    | any _ _ h0 h1 hp h2 h3 =>
      cases hue
      have hk9 : (underT K.D t).kind = 9 := by
        rw [hyu]
        rcases norm_cases y with ⟨h, _⟩ | ⟨_, _, _, _, h⟩ | ⟨_, _, h⟩
        · exact absurd h0 h
        · exact absurd h1 h
        · rw [h]; rfl
      refine yes (.inr (.inr (.inr (.inr hk9)))) fun hq => ?_
      subst hq
      exact ct_if ic1 (hv.ext x1) hg x1 hm1 (hadd rfl)
    | named _ _ h0 => exact absurd h0 hyl.1
    | ptr _ e u _ h0 h1 hr' hp h3 h4 =>
      cases hue
      have hu : underT K.D t = y := by rw [hyu, norm_named (by omega)]
      refine yes (.inr (.inr (.inl (by rw [hu]; exact h0)))) fun hq => ?_
      subst hq
      exact ct_ptr x1 hm1 (hadd rfl)
    | slice _ e u _ h0 h1 hr' hp h3 h4 =>
      cases hue
      have hu : underT K.D t = y := by rw [hyu, norm_named (by omega)]
      refine no (.inl (by rw [hu]; exact h0)) fun hq => ?_
      subst hq
      exact ct_no (.inl rfl) x1
    | array _ e u _ h0 h1 hr' hp h3 h4 =>
      cases hue
      have hu : underT K.D t = y := by rw [hyu, norm_named (by omega)]
      have hk4 : (underT K.D t).kind = 4 := by rw [hu]; exact h0
      have he : (underT K.D t).elems[0]? = some e := by rw [hu, h1]; rfl
      obtain ⟨j, hj, hjk⟩ := crk_el hk (.inl hk4) he
      exact ct_arr (ih j hj e q hjk ((hg.under ic.ok).el he) (hc.arr hk4 (by rw [hu]; exact h1))) hr' (h3.ext' x1) x1 hr hm1 (hseen j hj) hadd
    | map _ k' e u u' _ h0 h1 hr' hr2 hp h3 h4 =>
      cases hue
      have hu : underT K.D t = y := by rw [hyu, norm_named (by omega)]
      refine no (.inr (.inl (by rw [hu]; exact h0))) fun hq => ?_
      subst hq
      exact ct_no (.inr (.inl rfl)) x1
    | chan _ e u _ h0 h1 hr' hp h3 h4 =>
      cases hue
      have hu : underT K.D t = y := by rw [hyu, norm_named (by omega)]
      refine yes (.inr (.inr (.inr (.inl (by rw [hu]; exact h0))))) fun hq => ?_
      subst hq
      exact ct_chan x1 hm1 (hadd rfl)
    | struct _ _ fa fc ta tc vb vv tg h0 hr' h2 hp h3 h4 h5 h6 =>
      cases hue
      have hu : underT K.D t = y := by rw [hyu, norm_named (by omega)]
      have hk7 : (underT K.D t).kind = 7 := by rw [hu]; exact h0
      obtain ⟨bs, rfl, hl, hbs⟩ := hc.str hk7
      rw [hu] at hl hbs
      have hgy := good_lit ic.ok hg hyu (by omega)
      exact ct_str ic hl (by have := wt_len y; have := hgy.wt; omega) (fun i e c he hci => by
        obtain ⟨j, hj, hjk⟩ := crk_el hk (.inr hk7) (i := i) (e := e) (by rw [hu]; exact he)
        exact ⟨hgy.el he, j, hj, ih j hj e c hjk (hgy.el he) (hbs i e c he hci)⟩) (fun i e he => ⟨hr' i e he, (h2 i e he).2.1⟩) h4 h3 x1 hr hm1 hseen hadd
    | func _ _ ps rs vb vv h0 hr' h2 hp h3 h4 h5 h6 =>
      cases hue
      have hu : underT K.D t = y := by rw [hyu, norm_named (by omega)]
      refine no (.inr (.inr (by rw [hu]; exact h0))) fun hq => ?_
      subst hq
      exact ct_no (.inr (.inr rfl)) x1
    | iface _ _ ma mc ea ec fb me sv ev h0 hr1 h2 h3 hr2 hp h5 h6 h7 h8 =>
      cases hue
      have hu : underT K.D t = y := by rw [hyu, norm_named (by omega)]
      refine yes (.inr (.inr (.inr (.inr (by rw [hu]; exact h0))))) fun hq => ?_
      subst hq
      exact ct_if ic1 (hv.ext x1) hg x1 hm1 (hadd rfl)
  exact W.useS (tail _ hy rfl) rfl ⟨rfl, rfl, rfl, rfl, trivial⟩
theorem c_cmpT {K : Cfg} {s : Gs} {w0 : World} (ic : IC K s w0) (hsl : ∀ d, s.sl d → d < w0.heap.size) : ∀ (k : Nat) (t : Ty) (q : Bool), crk K.D t k → Good K.D t → Cmp K.D t q → CtC K s w0 k t q := by
  intro k
  induction k using Nat.strongRecOn with
  | ind k ih =>
    intro t q hk hg hc v w r c es hv x hr hm hs
    obtain ⟨T, b, rfl, hp1, hp2, hpl⟩ := hv.val ic hg
    have hpl' := hpl.ext' x
    refine W.enter (args := [.iface T (pt b), .bool true, .map (some r)]) Tryz.func83 rfl Tryz.ntmps83 rfl rfl ?_
    refine zst ?_
    rcases run_findKey_or (P := Tryz.prog) (key := tTY) (T := T) (a := ⟨b, 0, none⟩) hpl' (hs.pk ic x) with hno | ⟨i, m, hmm, hkey, hfind⟩
    · refine WU.stp rfl rfl rfl (stp_lookup_no rfl rfl hm hpl' hno) ?_
      rintro _ _ ⟨rfl, rfl⟩
      (repeat ((fail_if_success guard_target =~ gW (.seq (.region 5 _ _) _)); (fail_if_success guard_target =~ gW (.seq (.seq (.region 5 _ _) _) _)); refine zs1 ?_))
      exact W.useA (ct_new ic hsl (fun j hj e c => ih j hj e c) hk hg hc hv hpl x hr hm hs hno) rfl ⟨rfl, rfl, rfl, trivial⟩
    · obtain ⟨t', h1, h2, h3, h4⟩ := hs m hmm
      rw [hkey] at h1
      rw [h3] at hfind
      have hu := hv.under_same ic hg h1 h2
      have hq : q = true := by
        rcases h4 with h4 | h4
        · exact hc.det (h4.congr hu.symm)
        · exact absurd (cR_congr hu hk.1) h4
      subst hq
      refine WU.stp rfl rfl rfl (stp_lookup_yes rfl rfl hm hfind) ?_
      rintro _ _ ⟨rfl, rfl⟩
      refine zst ?_
      exact fin1 (.inl rfl) rfl rfl ⟨.inl ⟨rfl, rfl⟩, x, fun _ => ⟨es, c, hm, .rfl' es⟩⟩
theorem c_cmpT0 {K : Cfg} {s : Gs} {w : World} (ic : IC K s w) (hsl : ∀ d, s.sl d → d < w.heap.size) {v : Value} {t : Ty} {q : Bool} (hg : Good K.D t) (hc : Cmp K.D t q) (hv : RT K s w s.sl v t) :
    Calls Tryz.prog 83 #[v, .bool true, .map none] w (Ret (CtR K s w w.heap.size q #[])) := by
  obtain ⟨k0, hk0⟩ := hc.rank
  obtain ⟨k, _, hk⟩ := crk_exists hk0
  obtain ⟨T, b, rfl, hp1, hp2, hpl⟩ := hv.val ic hg
  refine W.enter (args := [.iface T (pt b), .bool true, .map none]) Tryz.func83 rfl Tryz.ntmps83 rfl rfl ?_
  refine zst ?_
  refine WU.stp rfl rfl rfl (stp_lookup_nil rfl rfl) ?_
  rintro _ _ ⟨rfl, rfl⟩
  refine zst ?_
  refine WU.stp rfl rfl rfl stp_makeMap ?_
  rintro _ w1 ⟨r, rfl, n1⟩
  have hr := n1.num
  subst hr
  (repeat ((fail_if_success guard_target =~ gW (.seq (.region 5 _ _) _)); (fail_if_success guard_target =~ gW (.seq (.seq (.region 5 _ _) _) _)); refine zs1 ?_))
  exact W.useA (ct_new ic hsl (fun j _ e c => c_cmpT ic hsl j e c) hk hg hc hv hpl n1.ext (Nat.le_refl _) n1.has (fun m hm => by simp at hm) (fun m hm => by simp at hm)) rfl ⟨rfl, rfl, rfl, trivial⟩
theorem c_gComparable {K : Cfg} {s : Gs} {w : World} (ic : IC K s w) (hsl : ∀ d, s.sl d → d < w.heap.size) {v : Value} {t : Ty} {q : Bool} (hg : Good K.D t) (hc : Cmp K.D t q) (hv : RT K s w s.sl v t) :
    Calls Tryz.prog 46 #[v] w (Ret fun r w' => r = .bool q ∧ Ext w w') := by
  refine W.enter (args := [v]) Tryz.func46 rfl Tryz.ntmps46 rfl rfl ?_
  refine zst ?_
  refine WU.stp rfl rfl rfl (stp_call rfl (c_cmpT0 ic hsl hg hc hv)) ?_
  rintro z w1 ⟨hz, x, _⟩
  rcases hz with ⟨rfl, rfl⟩ | ⟨rfl, k, rfl⟩
  · refine zst ?_
    exact fin1 (.inl rfl) rfl rfl ⟨rfl, x⟩
  · refine zst ?_
    exact fin1 (.inl rfl) rfl rfl ⟨rfl, x⟩
set_option maxHeartbeats 1000000 in
theorem c_iComparable {D : List De} {t : Ty} {q : Bool} {a : Option Addr} {cp : Nat} {a1 : Option Addr} {c1 : Nat} {w : World} (hp : Prp w) (hV : ValidD D) (hT : ValidT D t) (hwd : wtD D ≤ 16777216) (hwt : wt t ≤ 16777216) (hc : Cmp D t q) (hd : DsV w (fun b => b < w.heap.size) (.slice a D.length cp) D) (ht : TysV w (fun b => b < w.heap.size) a1 c1 t.elems) :
    Calls Tryz.prog 20 #[.slice a D.length cp, .agg (tyc t a1 c1).toArray] w (Ret fun r w' => r = .bool q ∧ Ext w w') := by
  refine W.enter (args := [.slice a D.length cp, .agg (tyc t a1 c1).toArray]) Tryz.func20 rfl Tryz.ntmps20 rfl rfl ?_
  refine zst ?_
  refine WU.stp rfl rfl rfl (by first | exact stp_box rfl rfl | exact stp_box1 rfl rfl) ?_
  rintro _ w1 ⟨b1, rfl, n1⟩
  refine zst ?_
  have ib1 : Has w1 b1 (.cells (tyc t a1 c1).toArray 26) := n1.has
  obtain ⟨F, hFd⟩ : ∃ F : World → Prop, ∀ W, F W ↔ (Has W b1 (.cells (tyc t a1 c1).toArray 26)) := ⟨fun W => (Has W b1 (.cells (tyc t a1 c1).toArray 26)), fun _ => Iff.rfl⟩
  refine W.regR (R := fun a b => F a → F b) (fun _ h => h) (fun _ _ _ h k x => k (h x)) [(0, .q), (2, .q), (1, .l), (3, .l), (4, .l), (5, .q)] (by kernel_rfl) (by kernel_rfl) rfl ?_
  intro w2 x2 _
  have hF : F w2 := (hFd _).2 (ib1.ext' x2)
  have x02 : Ext w w2 := n1.ext.trans x2
  have z02 := x02.size
  (repeat (first
      | refine WR.nilk ?_
      | refine WR.nil ?_
      | refine WR.yld (fun _ h => h) rfl rfl rfl rfl (fun w' hx => by obtain i1 := (hFd _).1 (hx hF); first | exact zyl | (exact by exact yld_load_cells rfl (Cells.has i1)) | exact yld_indexAddr_arr rfl rfl (by omega)) ?_
      | refine WR.skip rfl rfl rfl rfl ?_))
  refine WR.stp rfl rfl rfl rfl (stp_call rfl (c_build' (hp.ext x02) hV hwd (hd.ext x02) fun b hb => by omega)) ?_
  rintro _ w3 ⟨K, s, bb, rfl, rfl, hKN, x3, hB⟩
  have hF : F w3 := (hFd _).2 (((hFd _).1 hF).ext' x3)
  refine ⟨fun _ => hF, ?_⟩
  (repeat (first
      | refine WR.nilk ?_
      | refine WR.nil ?_
      | refine WR.yld (fun _ h => h) rfl rfl rfl rfl (fun w' hx => by obtain i1 := (hFd _).1 (hx hF); first | exact zyl | (exact by exact yld_load_cells rfl (Cells.has i1)) | exact yld_indexAddr_arr rfl rfl (by omega)) ?_
      | refine WR.skip rfl rfl rfl rfl ?_))
  have z3 := x3.size
  have hb1 := (ib1.ext' x2).lt
  refine WR.stp rfl rfl rfl rfl (stp_call rfl (c_of hB (p := fun b => b < w.heap.size) (cs := tyc t a1 c1) (t := t) (((TyV.of_tys ht).ext x02).ext x3) (fun b hb => ⟨by omega, by omega⟩) ⟨true, hT.sh⟩ hT.lg (by show _ ≤ 268435456; omega))) ?_
  rintro _ w4 ⟨s4, hg4, st4, hB4, rt4, T, rb, rfl⟩
  have hF : F w4 := (hFd _).2 (Has.sta st4 ((hFd _).1 hF))
  refine ⟨fun _ => hF, ?_⟩
  (repeat (first
      | refine WR.nilk ?_
      | refine WR.nil ?_
      | refine WR.yld (fun _ h => h) rfl rfl rfl rfl (fun w' hx => by obtain i1 := (hFd _).1 (hx hF); first | exact zyl | (exact by exact yld_load_cells rfl (Cells.has i1)) | exact yld_indexAddr_arr rfl rfl (by omega)) ?_
      | refine WR.skip rfl rfl rfl rfl ?_))
  refine WR.stp rfl rfl rfl rfl (stp_call rfl (c_gComparable hB4.ic hB4.bi.sll (hT.good hwt) hc rt4)) ?_
  rintro _ w5 ⟨rfl, x5⟩
  have hF : F w5 := (hFd _).2 (((hFd _).1 hF).ext' x5)
  refine ⟨fun _ => hF, ?_⟩
  (repeat (first
      | refine WR.nilk ?_
      | refine WR.nil ?_
      | refine WR.yld (fun _ h => h) rfl rfl rfl rfl (fun w' hx => by obtain i1 := (hFd _).1 (hx hF); first | exact zyl | (exact by exact yld_load_cells rfl (Cells.has i1)) | exact yld_indexAddr_arr rfl rfl (by omega)) ?_
      | refine WR.skip rfl rfl rfl rfl ?_))
  refine zst ?_
  exact fin1 (.inl rfl) rfl rfl ⟨rfl, (x02.trans (ext_sta x3 (by omega) st4)).trans x5⟩
end Go.Proofs.YtlemfkbhcleopaaGreatDoor
namespace Go.Proofs.YtlemfkbhcleopaaGreatDoor
open Go Go.Kd

theorem mergeE_nodup : ∀ {L : List (List Mt)} {out : List Mt}, (out.map keyM).Nodup → (∀ l ∈ L, (l.map keyM).Nodup) → ((mergeE L out).map keyM).Nodup
  | [], _, h, _ => h
  | l :: L, out, h, hL => by
    show ((mergeE L (l.foldl addM out)).map keyM).Nodup
    refine mergeE_nodup ?_ fun k hk => hL k (List.mem_cons_of_mem _ hk)
    have hl := hL l (List.mem_cons_self ..)
    rw [addM_fold hl, List.map_append, List.nodup_append]
    refine ⟨h, (List.filter_sublist.map _).nodup hl, fun a ha b hb => ?_⟩
    obtain ⟨m, hm, rfl⟩ := List.mem_map.1 hb
    have := (List.mem_filter.1 hm).2
    simp only [decide_eq_true_eq] at this
    exact fun e => this (e ▸ ha)
/-- how the methods of an interface came about -/
theorem IM.inv {D : List De} {t u : Ty} {c : Nat} {ms : List Mt} (hu : underT D t = u) (h9 : u.kind = 9) (hc : u.count = c) (hcl : c ≤ u.elems.length) (h : IM D t ms) :
    ∃ L, L.length = u.elems.length - c ∧ (∀ (j : Nat) e l, u.elems[c + j]? = some e → L[j]? = some l → IM D e l) ∧ ms = mergeE L (ownM u c) := by
  subst hu
  cases h with
  | no _ k => exact absurd h9 k
  | yes _ L _ hl h1 h2 =>
    have hlen : (L.take c).length = c := by rw [List.length_take]; omega
    have hown : L.take c = ((underT D t).elems.take c).map (fun e => [(⟨e.name, (underT D t).n, e⟩ : Mt)]) := by
      refine lists_eq _ _ (by simp; omega) fun i a b ha hb => ?_
      have hi : i < c := by rw [← hlen]; exact (List.getElem?_eq_some_iff.1 ha).1
      rw [List.getElem?_take_of_lt hi] at ha
      rw [List.getElem?_map, List.getElem?_take_of_lt hi] at hb
      cases he : (underT D t).elems[i]? with
      | none => rw [he] at hb; cases hb
      | some e =>
        rw [he] at hb
        rw [h1 i e a he ha (by omega)]
        exact Option.some.inj hb
    refine ⟨L.drop c, by simp; omega, fun j e l he hj => ?_, ?_⟩
    · rw [List.getElem?_drop] at hj
      exact h2 (c + j) e l he hj (by omega)
    · conv => lhs; rw [← List.take_append_drop c L]
      rw [mergeM_lo _ _ _ 0 [] (by rw [hlen, hc]; simp), mergeM_hi _ _ _ _ (by rw [hlen, hc]; simp), List.nil_append, hown, flatten_single (fun e => (⟨e.name, (underT D t).n, e⟩ : Mt))]
      rfl
/-- an interface's methods have names of their own -/
theorem IM_nodup {D : List De} (hD : OkD D) (hV : ValidD D) {t : Ty} {ms : List Mt} (h : IM D t ms) : Good D t → Legal D t → (ms.map keyM).Nodup := by
  induction h with
  | no => intros; simp
  | yes t L h9 hl h1 h2 ih =>
    intro hG hL
    have hGu := hG.under hD
    have hLu := legal_under hV hG hL
    obtain ⟨i, v, _, hs⟩ := hGu.sh
    have c0 := hs.shape.c0 (.inr h9)
    have c1 := hs.shape.c1 (.inr h9)
    obtain ⟨c, hc⟩ : ∃ c : Nat, (underT D t).count = c := ⟨(underT D t).count.toNat, by omega⟩
    obtain ⟨L', l1, l2, e⟩ := IM.inv rfl h9 hc (by omega) (.yes t L h9 hl h1 h2)
    rw [e]
    refine mergeE_nodup (own_nodup (by have := hLu.here.unq h9; rwa [hc, Int.toNat_natCast] at this) fun i e he hi => hLu.here.mth h9 i e he (by omega)) fun l hl' => ?_
    obtain ⟨j, hj⟩ := List.getElem?_of_mem hl'
    have hlt := (List.getElem?_eq_some_iff.1 hj).1
    have hel : (underT D t).elems[c + j]? = some (underT D t).elems[c + j] := List.getElem?_eq_getElem (by omega)
    have hL0 : L[c + j]? = some L[c + j] := List.getElem?_eq_getElem (by omega)
    have := IM.det (l2 j _ l hel hj) (h2 (c + j) _ _ hel hL0 (by omega))
    rw [this]
    exact ih (c + j) _ _ hel hL0 (by omega) (hGu.el hel) (hLu.el _ _ hel)
theorem IM_legal {D : List De} (hD : OkD D) (hV : ValidD D) {t : Ty} {ms : List Mt} (h : IM D t ms) (hG : Good D t) (hL : Legal D t) : ∀ m ∈ ms, Legal D m.fn := legal_IM hV hD h hG hL
theorem anM_keyA (ms : List Mt) : (anM ms).map keyA = ms.map keyM := by unfold anM; rw [List.map_map]; rfl
/-- a legal type's tree is well-formed -/
theorem exp_wf {D : List De} (hD : OkD D) (hV : ValidD D) {t : Ty} {x : X} (h : Exp D t x) : Good D t → Legal D t → WfX x := by
  induction h with
  | leaf t hk => exact fun _ _ => .leaf _ _
  | plain t es h2 h8 hl _ ih =>
    intro hG hL
    refine .node _ _ _ _ _ _ (fun h => by omega) fun e he => ?_
    obtain ⟨i, hi⟩ := List.getElem?_of_mem he
    have hlt := (List.getElem?_eq_some_iff.1 hi).1
    have hel : (unaliasT D t).elems[i]? = some (unaliasT D t).elems[i] := List.getElem?_eq_getElem (by omega)
    exact ih i _ e hel hi ((hG.unalias hD).el hel) ((legal_unalias hV hG hL).el _ _ hel)
  | iface t ms es h9 hm hl _ ih =>
    intro hG hL
    have hG' := hG.unalias hD
    have hL' := legal_unalias hV hG hL
    refine .node _ _ _ _ _ _ (fun _ => ⟨by unfold anM; rw [List.length_map, hl], by rw [anM_keyA]; exact IM_nodup hD hV hm hG' hL'⟩) fun e he => ?_
    obtain ⟨i, hi⟩ := List.getElem?_of_mem he
    have hlt := (List.getElem?_eq_some_iff.1 hi).1
    have hel : ms[i]? = some ms[i] := List.getElem?_eq_getElem (by omega)
    exact ih i _ e hel hi (IM_good hD hm hG' _ (List.mem_of_getElem? hel)) (IM_legal hD hV hm hG' hL' _ (List.mem_of_getElem? hel))

end Go.Proofs.YtlemfkbhcleopaaGreatDoor
namespace Go.Kd

/-- an operation of a drawn region: its number, where its result goes, what holds of the result from then on; B: the new blocks that it made for the result -/
structure Tsk where
  i : Nat
  d : Nat
  o : Oper
  B : Value → Nat → Prop
  F : Value → World → Prop
section
variable {P : Program} {n : Nat} {ops : List Oper} {Q : Post} {D : List Deferred} {e : Env} {w : World}
end
end Go.Kd
namespace Go.Proofs.YtlemfkbhcleopaaGreatDoor.Law
open Go Go.Kd
set_option maxRecDepth 100000

abbrev E0 : ByteArray := ⟨#[]⟩
theorem c_place (n k : Int) (w : World) (hk : 0 < k ∧ k ≤ 1000000) :
    Calls Tryz.prog 17 #[.int .i64 n, .int .i64 k] w (Ret fun r w' => r = .int .i64 (n % k) ∧ w = w') := by
  have h1 : -k < n.tmod k ∧ n.tmod k < k := ⟨by have := Int.lt_tmod_of_pos n hk.1; omega, Int.tmod_lt_of_pos n hk.1⟩
  have h2 : (n.tmod k + k).tmod k = n % k := by
    rw [Int.tmod_eq_emod_of_nonneg (by omega), Int.add_emod_right, Int.tmod_def, Int.sub_eq_add_neg, ← Int.mul_neg, Int.add_mul_emod_self_left]
  refine W.enter (args := [.int .i64 n, .int .i64 k]) Tryz.func17 rfl Tryz.ntmps17 rfl rfl ?_
  refine zst ?_
  refine WU.yld rfl rfl rfl (yld_rem rfl rfl (by omega)) ?_
  refine zst ?_
  refine WU.yld rfl rfl rfl (yld_rem rfl rfl (by omega)) ?_
  refine zst ?_
  exact fin1 (.inl rfl) rfl rfl ⟨by rw [h2], rfl⟩

theorem c_of (k n : Int) (a : Option Addr) (l c : Nat) (w : World) :
    Calls Tryz.prog 21 #[.int .i64 k, .int .i64 n, .slice a l c] w
      (Ret fun r w' => r = tyv k n 0 false (.slice a l c) E0 E0 false ∧ Ext w w') := by
  refine W.enter (args := [.int .i64 k, .int .i64 n, .slice a l c]) Tryz.func21 rfl Tryz.ntmps21 rfl rfl ?_
  refine zst ?_
  refine WU.stp rfl rfl rfl stp_alloc ?_
  rintro _ w1 ⟨b1, rfl, n1⟩
  refine zst ?_
  refine WU.stp0 rfl rfl (stp_store_whole rfl rfl rfl rfl) ?_
  rintro _ w2 u2
  refine zst ?_
  exact finc (.inl rfl) rfl rfl ⟨rfl, (u2.ofNew n1).ext⟩

theorem c_basic (n : Int) (w : World) :
    Calls Tryz.prog 27 #[.int .i64 n] w
      (Ret fun r w' => r = tyv 0 n 0 false (.slice none 0 0) E0 E0 false ∧ Ext w w') := by
  refine W.enter (args := [.int .i64 n]) Tryz.func27 rfl Tryz.ntmps27 rfl rfl ?_
  refine zst ?_
  refine WU.stp rfl rfl rfl stp_alloc ?_
  rintro _ w1 ⟨b1, rfl, n1⟩
  refine zst ?_
  refine WU.stp rfl rfl rfl (stp_call rfl (c_of 0 n none 0 0 w1)) ?_
  rintro _ w2 ⟨rfl, x2⟩
  refine WU.stp0 rfl rfl (stp_store_whole rfl rfl rfl rfl) ?_
  rintro _ w3 u3
  refine zst ?_
  exact finc (.inl rfl) rfl rfl ⟨rfl, u3.ext (n1.ext.trans x2) (Nat.le_of_eq n1.num.symm)⟩

theorem c_field (nm tg : ByteArray) (k n c : Int) (vr : Bool) (a : Option Addr) (l cp : Nat) (nm' tg' : ByteArray) (em : Bool) (w : World) :
    Calls Tryz.prog 19 #[.string nm, tyv k n c vr (.slice a l cp) nm' tg' em, .string tg] w
      (Ret fun r w' => r = tyv k n c vr (.slice a l cp) nm tg false ∧ Ext w w') := by
  refine W.enter (args := [.string nm, tyv k n c vr (.slice a l cp) nm' tg' em, .string tg]) Tryz.func19 rfl Tryz.ntmps19 rfl rfl ?_
  refine zst ?_
  refine WU.stp rfl rfl rfl (by first | exact stp_box rfl rfl | exact stp_box1 rfl rfl) ?_
  rintro _ w1 ⟨b1, rfl, n1⟩
  refine WU.stp rfl rfl rfl stp_alloc ?_
  rintro _ w2 ⟨b2, rfl, n2⟩
  have hb := n1.num
  have hb2 := n2.num
  have hs := n1.size
  refine zst ?_
  refine WU.stp0 rfl rfl (stp_store_cell rfl rfl rfl rfl) ?_
  rintro _ w3 u3
  refine zst ?_
  refine WU.stp0 rfl rfl (stp_store_cell rfl rfl rfl rfl) ?_
  rintro _ w4 u4
  refine zst ?_
  refine WU.stp0 rfl rfl (stp_store_cell rfl rfl rfl rfl) ?_
  rintro _ w5 u5
  refine zst ?_
  have i5 : Has w5 b2 _ := u5.keep (u4.keep (u3.keep inferInstance (by omega)) (by omega)) (by omega)
  refine WU.stp0 rfl rfl (stp_store_whole rfl rfl rfl rfl) ?_
  rintro _ w6 u6
  refine zst ?_
  have x5 : Ext w w5 := u5.ext (u4.ext (u3.ext (n1.ext.trans n2.ext) (by omega)) (by omega)) (by omega)
  exact finc (.inl rfl) rfl rfl ⟨rfl, u6.ext x5 (by omega)⟩

theorem c_element (k n c : Int) (vr : Bool) (a : Option Addr) (l cp : Nat) (nm tg : ByteArray) (em : Bool) (w : World) :
    Calls Tryz.prog 47 #[tyv k n c vr (.slice a l cp) nm tg em] w
      (Ret fun r w' => r = tyv k n c vr (.slice a l cp) E0 E0 false ∧ Ext w w') := by
  refine W.enter (args := [tyv k n c vr (.slice a l cp) nm tg em]) Tryz.func47 rfl Tryz.ntmps47 rfl rfl ?_
  refine zst ?_
  refine WU.stp rfl rfl rfl (by first | exact stp_box rfl rfl | exact stp_box1 rfl rfl) ?_
  rintro _ w1 ⟨b1, rfl, n1⟩
  refine WU.stp rfl rfl rfl stp_alloc ?_
  rintro _ w2 ⟨b2, rfl, n2⟩
  have hb := n1.num
  have hb2 := n2.num
  have hs := n1.size
  refine zst ?_
  refine WU.stp rfl rfl rfl (stp_call rfl (c_field E0 E0 k n c vr a l cp nm tg em w2)) ?_
  rintro _ w3 ⟨rfl, x3⟩
  refine WU.stp0 rfl rfl (stp_store_whole rfl rfl rfl rfl) ?_
  rintro _ w4 u4
  refine zst ?_
  exact finc (.inl rfl) rfl rfl ⟨rfl, u4.ext (n1.ext.trans (n2.ext.trans x3)) (by omega)⟩

/-- pointer, slice -/
theorem c_pointer (k n c : Int) (vr : Bool) (a : Option Addr) (l cp : Nat) (nm tg : ByteArray) (em : Bool) (w : World) :
    Calls Tryz.prog 23 #[tyv k n c vr (.slice a l cp) nm tg em] w
      (Ret fun r w' => ∃ b, r = tyv 2 0 0 false (.slice (some ⟨b, 0, none⟩) 1 1) E0 E0 false ∧ Has w' b (.cells (tyl k n c vr (.slice a l cp) E0 E0 false).toArray 26) ∧ w.heap.size ≤ b ∧ Ext w w') := by
  refine W.enter (args := [tyv k n c vr (.slice a l cp) nm tg em]) Tryz.func23 rfl Tryz.ntmps23 rfl rfl ?_
  refine zst ?_
  refine WU.stp rfl rfl rfl (by first | exact stp_box rfl rfl | exact stp_box1 rfl rfl) ?_
  rintro _ w1 ⟨b1, rfl, n1⟩
  refine WU.stp rfl rfl rfl stp_alloc ?_
  rintro _ w2 ⟨b2, rfl, n2⟩
  have hb := n1.num
  have hb2 := n2.num
  have hs := n1.size
  refine zst ?_
  refine WU.stp rfl rfl rfl (stp_call rfl (c_element k n c vr a l cp nm tg em w2)) ?_
  rintro _ w3 ⟨rfl, x3⟩
  refine WU.stp rfl rfl rfl (stp_buildSlice rfl rfl rfl rfl rfl) ?_
  rintro _ w4 ⟨b4, rfl, n4⟩
  refine WU.stp rfl rfl rfl (stp_call rfl (c_of 2 0 (some ⟨b4, 0, none⟩) 1 1 w4)) ?_
  rintro _ w5 ⟨rfl, x5⟩
  have h2 := n2.has.lt
  have s3 := x3.size
  have hb4 := n4.num
  refine WU.stp0 rfl rfl (stp_store_whole rfl rfl rfl rfl) ?_
  rintro _ w6 u6
  refine zst ?_
  exact finc (.inl rfl) rfl rfl ⟨b4, rfl, u6.keep inferInstance (by omega), by omega, u6.ext (n1.ext.trans (n2.ext.trans (x3.trans (n4.ext.trans x5)))) (by omega)⟩
theorem c_slice (k n c : Int) (vr : Bool) (a : Option Addr) (l cp : Nat) (nm tg : ByteArray) (em : Bool) (w : World) :
    Calls Tryz.prog 25 #[tyv k n c vr (.slice a l cp) nm tg em] w
      (Ret fun r w' => ∃ b, r = tyv 3 0 0 false (.slice (some ⟨b, 0, none⟩) 1 1) E0 E0 false ∧ Has w' b (.cells (tyl k n c vr (.slice a l cp) E0 E0 false).toArray 26) ∧ w.heap.size ≤ b ∧ Ext w w') := by
  refine W.enter (args := [tyv k n c vr (.slice a l cp) nm tg em]) Tryz.func25 rfl Tryz.ntmps25 rfl rfl ?_
  refine zst ?_
  refine WU.stp rfl rfl rfl (by first | exact stp_box rfl rfl | exact stp_box1 rfl rfl) ?_
  rintro _ w1 ⟨b1, rfl, n1⟩
  refine WU.stp rfl rfl rfl stp_alloc ?_
  rintro _ w2 ⟨b2, rfl, n2⟩
  have hb := n1.num
  have hb2 := n2.num
  have hs := n1.size
  refine zst ?_
  refine WU.stp rfl rfl rfl (stp_call rfl (c_element k n c vr a l cp nm tg em w2)) ?_
  rintro _ w3 ⟨rfl, x3⟩
  refine WU.stp rfl rfl rfl (stp_buildSlice rfl rfl rfl rfl rfl) ?_
  rintro _ w4 ⟨b4, rfl, n4⟩
  refine WU.stp rfl rfl rfl (stp_call rfl (c_of 3 0 (some ⟨b4, 0, none⟩) 1 1 w4)) ?_
  rintro _ w5 ⟨rfl, x5⟩
  have h2 := n2.has.lt
  have s3 := x3.size
  have hb4 := n4.num
  refine WU.stp0 rfl rfl (stp_store_whole rfl rfl rfl rfl) ?_
  rintro _ w6 u6
  refine zst ?_
  exact finc (.inl rfl) rfl rfl ⟨b4, rfl, u6.keep inferInstance (by omega), by omega, u6.ext (n1.ext.trans (n2.ext.trans (x3.trans (n4.ext.trans x5)))) (by omega)⟩
theorem c_array (m k n c : Int) (vr : Bool) (a : Option Addr) (l cp : Nat) (nm tg : ByteArray) (em : Bool) (w : World) :
    Calls Tryz.prog 22 #[.int .i64 m, tyv k n c vr (.slice a l cp) nm tg em] w
      (Ret fun r w' => ∃ b, r = tyv 4 m 0 false (.slice (some ⟨b, 0, none⟩) 1 1) E0 E0 false ∧ Has w' b (.cells (tyl k n c vr (.slice a l cp) E0 E0 false).toArray 26) ∧ w.heap.size ≤ b ∧ Ext w w') := by
  refine W.enter (args := [.int .i64 m, tyv k n c vr (.slice a l cp) nm tg em]) Tryz.func22 rfl Tryz.ntmps22 rfl rfl ?_
  refine zst ?_
  refine WU.stp rfl rfl rfl (by first | exact stp_box rfl rfl | exact stp_box1 rfl rfl) ?_
  rintro _ w1 ⟨b1, rfl, n1⟩
  refine WU.stp rfl rfl rfl stp_alloc ?_
  rintro _ w2 ⟨b2, rfl, n2⟩
  have hb := n1.num
  have hb2 := n2.num
  have hs := n1.size
  refine zst ?_
  refine WU.stp rfl rfl rfl (stp_call rfl (c_element k n c vr a l cp nm tg em w2)) ?_
  rintro _ w3 ⟨rfl, x3⟩
  refine WU.stp rfl rfl rfl (stp_buildSlice rfl rfl rfl rfl rfl) ?_
  rintro _ w4 ⟨b4, rfl, n4⟩
  refine WU.stp rfl rfl rfl (stp_call rfl (c_of 4 m (some ⟨b4, 0, none⟩) 1 1 w4)) ?_
  rintro _ w5 ⟨rfl, x5⟩
  have h2 := n2.has.lt
  have s3 := x3.size
  have hb4 := n4.num
  refine WU.stp0 rfl rfl (stp_store_whole rfl rfl rfl rfl) ?_
  rintro _ w6 u6
  refine zst ?_
  exact finc (.inl rfl) rfl rfl ⟨b4, rfl, u6.keep inferInstance (by omega), by omega, u6.ext (n1.ext.trans (n2.ext.trans (x3.trans (n4.ext.trans x5)))) (by omega)⟩
theorem c_channel (m k n c : Int) (vr : Bool) (a : Option Addr) (l cp : Nat) (nm tg : ByteArray) (em : Bool) (w : World) :
    Calls Tryz.prog 24 #[.int .i64 m, tyv k n c vr (.slice a l cp) nm tg em] w
      (Ret fun r w' => ∃ b, r = tyv 6 m 0 false (.slice (some ⟨b, 0, none⟩) 1 1) E0 E0 false ∧ Has w' b (.cells (tyl k n c vr (.slice a l cp) E0 E0 false).toArray 26) ∧ w.heap.size ≤ b ∧ Ext w w') := by
  refine W.enter (args := [.int .i64 m, tyv k n c vr (.slice a l cp) nm tg em]) Tryz.func24 rfl Tryz.ntmps24 rfl rfl ?_
  refine zst ?_
  refine WU.stp rfl rfl rfl (by first | exact stp_box rfl rfl | exact stp_box1 rfl rfl) ?_
  rintro _ w1 ⟨b1, rfl, n1⟩
  refine WU.stp rfl rfl rfl stp_alloc ?_
  rintro _ w2 ⟨b2, rfl, n2⟩
  have hb := n1.num
  have hb2 := n2.num
  have hs := n1.size
  refine zst ?_
  refine WU.stp rfl rfl rfl (stp_call rfl (c_element k n c vr a l cp nm tg em w2)) ?_
  rintro _ w3 ⟨rfl, x3⟩
  refine WU.stp rfl rfl rfl (stp_buildSlice rfl rfl rfl rfl rfl) ?_
  rintro _ w4 ⟨b4, rfl, n4⟩
  refine WU.stp rfl rfl rfl (stp_call rfl (c_of 6 m (some ⟨b4, 0, none⟩) 1 1 w4)) ?_
  rintro _ w5 ⟨rfl, x5⟩
  have h2 := n2.has.lt
  have s3 := x3.size
  have hb4 := n4.num
  refine WU.stp0 rfl rfl (stp_store_whole rfl rfl rfl rfl) ?_
  rintro _ w6 u6
  refine zst ?_
  exact finc (.inl rfl) rfl rfl ⟨b4, rfl, u6.keep inferInstance (by omega), by omega, u6.ext (n1.ext.trans (n2.ext.trans (x3.trans (n4.ext.trans x5)))) (by omega)⟩
theorem c_mapping (k n c : Int) (vr : Bool) (a : Option Addr) (l cp : Nat) (nm tg : ByteArray) (em : Bool) (k' n' c' : Int) (vr' : Bool) (a' : Option Addr) (l' cp' : Nat) (nm' tg' : ByteArray) (em' : Bool) (w : World) :
    Calls Tryz.prog 26 #[tyv k n c vr (.slice a l cp) nm tg em, tyv k' n' c' vr' (.slice a' l' cp') nm' tg' em'] w
      (Ret fun r w' => ∃ b, r = tyv 5 0 0 false (.slice (some ⟨b, 0, none⟩) 2 2) E0 E0 false ∧
        Has w' b (.cells (tyl k n c vr (.slice a l cp) E0 E0 false ++ tyl k' n' c' vr' (.slice a' l' cp') E0 E0 false).toArray 26) ∧ w.heap.size ≤ b ∧ Ext w w') := by
  refine W.enter (args := [tyv k n c vr (.slice a l cp) nm tg em, tyv k' n' c' vr' (.slice a' l' cp') nm' tg' em']) Tryz.func26 rfl Tryz.ntmps26 rfl rfl ?_
  refine zst ?_
  refine WU.stp rfl rfl rfl (by first | exact stp_box rfl rfl | exact stp_box1 rfl rfl) ?_
  rintro _ w1 ⟨b1, rfl, n1⟩
  refine WU.stp rfl rfl rfl (by first | exact stp_box rfl rfl | exact stp_box1 rfl rfl) ?_
  rintro _ w2 ⟨b2, rfl, n2⟩
  refine WU.stp rfl rfl rfl stp_alloc ?_
  rintro _ w3 ⟨b3, rfl, n3⟩
  have hb1 := n1.num
  have hb2 := n2.num
  have hs2 := n1.size
  have hb3 := n3.num
  have hs3 := n2.size
  refine zst ?_
  refine W.regD [(0, .q), (2, .q), (1, .l), (3, .l), (4, .l), (5, .l), (6, .z)] (by kernel_rfl) (by kernel_rfl) rfl ?_
  intro w4 x4 _
  refine zsd ?_
  refine WD.stp rfl rfl rfl rfl (stp_call rfl (c_element k n c vr a l cp nm tg em w4)) ?_
  rintro _ w5 ⟨rfl, x5⟩
  refine ⟨by first | assumption | exact Ext.rfl' _ | infer_instance, ?_⟩
  refine WD.stp rfl rfl rfl rfl (stp_call rfl (c_element k' n' c' vr' a' l' cp' nm' tg' em' w5)) ?_
  rintro _ w6 ⟨rfl, x6⟩
  refine ⟨by first | assumption | exact Ext.rfl' _ | infer_instance, ?_⟩
  refine WD.stp rfl rfl rfl rfl (stp_buildSlice rfl rfl rfl rfl rfl) ?_
  rintro _ w7 ⟨b7, rfl, n7⟩
  refine ⟨n7.ext, ?_⟩
  refine WD.stp rfl rfl rfl rfl (stp_call rfl (c_of 5 0 (some ⟨b7, 0, none⟩) 2 2 w7)) ?_
  rintro _ w8 ⟨rfl, x8⟩
  refine ⟨by first | assumption | exact Ext.rfl' _ | infer_instance, ?_⟩
  have h3 := n3.has.lt
  have s4 := x4.size
  have s5 := x5.size
  have s6 := x6.size
  have hb7 := n7.num
  refine WD.last0 rfl rfl rfl (stp_store_whole rfl rfl rfl rfl) ?_
  rintro _ w9 u9
  refine zsd ?_
  refine zst ?_
  exact finc (.inl rfl) rfl rfl ⟨b7, rfl, u9.keep inferInstance (by omega), by omega, u9.ext (n1.ext.trans (n2.ext.trans (n3.ext.trans (x4.trans (x5.trans (x6.trans (n7.ext.trans x8))))))) (by omega)⟩


/-! ### .. as types -/
theorem tys_el {w : World} {t : Ty} {a : Option Addr} {c r : Nat} (hr : Has w r (.cells (tyc (elT t) a c).toArray 26)) {p : Nat → Prop} (hp : p r) (ht : TysV w p a c t.elems) : TysV w p (some ⟨r, 0, none⟩) 1 [elT t] := tys_one (t := elT t) hr hp ht
/-- the value of a type: what it reads -/
structure TvP (w : World) (p : Nat → Prop) (v : Value) (t : Ty) : Prop where
  ex : ∃ a c, v = .agg (tyc t a c).toArray ∧ TysV w p a c t.elems
abbrev TvV (w : World) (v : Value) (t : Ty) : Prop := TvP w (fun b => b < w.heap.size) v t
theorem TvP.mono {w : World} {p q : Nat → Prop} (hq : ∀ b, p b → q b) {v : Value} {t : Ty} (h : TvP w p v t) : TvP w q v t := by
  obtain ⟨a, c, h1, h2⟩ := h.ex
  exact ⟨a, c, h1, h2.mono hq⟩
theorem TvP.at_ {w w' : World} (x : Ext w w') {p : Nat → Prop} {v : Value} {t : Ty} (h : TvP w p v t) : TvP w' p v t := by
  obtain ⟨a, c, h1, h2⟩ := h.ex
  exact ⟨a, c, h1, h2.ext x⟩
theorem TvP.ext {w w' : World} (x : Ext w w') {v : Value} {t : Ty} (h : TvV w v t) : TvV w' v t := (h.at_ x).mono fun b hb => by have := x.size; omega
/-- the block of a type's elements -/
def blk (v : Value) (b : Nat) : Prop := ∃ l, v = .agg l ∧ ∃ o s n c, l[4]? = some (.slice (some ⟨b, o, s⟩) n c)
theorem blk_tyc {t : Ty} {o : Option Addr} {c b : Nat} (h : blk (.agg (tyc t o c).toArray) b) : ∃ q s, o = some ⟨b, q, s⟩ := by
  obtain ⟨l, e, q, s, n, k, h⟩ := h
  cases e
  simp at h
  exact ⟨q, s, h.1⟩
/-- a new value, made of old ones -/
abbrev Mk (w : World) (p : Nat → Prop) (t : Ty) (r : Value) (w' : World) : Prop := TvP w' (fun b => p b ∨ blk r b) r t ∧ (∀ b, blk r b → w.heap.size ≤ b ∧ b < w'.heap.size) ∧ Ext w w'
theorem toV {f : FuncId} {args : Array Value} {w : World} {t : Ty} (h : Calls Tryz.prog f args w (Ret (Mk w (fun b => b < w.heap.size) t))) : Calls Tryz.prog f args w (Ret fun r w' => TvV w' r t ∧ Ext w w') :=
  h.mono fun _ _ ⟨r, e, h1, h2, x⟩ => ⟨r, e, h1.mono fun b hb => by
    have := x.size
    rcases hb with hb | hb
    · omega
    · exact (h2 b hb).2, x⟩
theorem n_pointer {v : Value} {t : Ty} {w : World} {p : Nat → Prop} (h : TvP w p v t) : Calls Tryz.prog 23 #[v] w (Ret (Mk w p (ndT 2 0 [elT t]))) := by
  obtain ⟨a, c, rfl, ht⟩ := h.ex
  refine (c_pointer t.kind t.n t.count t.vr a t.elems.length c t.name t.tag t.emb w).mono fun e w' he => ?_
  obtain ⟨r, rfl, b, rfl, hb, hs, x⟩ := he
  exact ⟨_, rfl, ⟨_, _, rfl, tys_el (t := t) hb (.inr ⟨_, rfl, 0, none, 1, 1, rfl⟩) ((ht.ext x).mono fun b hb => .inl hb)⟩, fun d hd => by
    obtain ⟨q, s, e⟩ := blk_tyc (t := ndT 2 0 [elT t]) hd
    cases e
    exact ⟨hs, hb.lt⟩, x⟩
theorem t_pointer {v : Value} {t : Ty} {w : World} (h : TvV w v t) : Calls Tryz.prog 23 #[v] w (Ret fun r w' => TvV w' r (ndT 2 0 [elT t]) ∧ Ext w w') := toV (n_pointer h)
theorem n_slice {v : Value} {t : Ty} {w : World} {p : Nat → Prop} (h : TvP w p v t) : Calls Tryz.prog 25 #[v] w (Ret (Mk w p (ndT 3 0 [elT t]))) := by
  obtain ⟨a, c, rfl, ht⟩ := h.ex
  refine (c_slice t.kind t.n t.count t.vr a t.elems.length c t.name t.tag t.emb w).mono fun e w' he => ?_
  obtain ⟨r, rfl, b, rfl, hb, hs, x⟩ := he
  exact ⟨_, rfl, ⟨_, _, rfl, tys_el (t := t) hb (.inr ⟨_, rfl, 0, none, 1, 1, rfl⟩) ((ht.ext x).mono fun b hb => .inl hb)⟩, fun d hd => by
    obtain ⟨q, s, e⟩ := blk_tyc (t := ndT 3 0 [elT t]) hd
    cases e
    exact ⟨hs, hb.lt⟩, x⟩
theorem t_slice {v : Value} {t : Ty} {w : World} (h : TvV w v t) : Calls Tryz.prog 25 #[v] w (Ret fun r w' => TvV w' r (ndT 3 0 [elT t]) ∧ Ext w w') := toV (n_slice h)
theorem n_array (m : Int) {v : Value} {t : Ty} {w : World} {p : Nat → Prop} (h : TvP w p v t) : Calls Tryz.prog 22 #[.int .i64 m, v] w (Ret (Mk w p (ndT 4 m [elT t]))) := by
  obtain ⟨a, c, rfl, ht⟩ := h.ex
  refine (c_array m t.kind t.n t.count t.vr a t.elems.length c t.name t.tag t.emb w).mono fun e w' he => ?_
  obtain ⟨r, rfl, b, rfl, hb, hs, x⟩ := he
  exact ⟨_, rfl, ⟨_, _, rfl, tys_el (t := t) hb (.inr ⟨_, rfl, 0, none, 1, 1, rfl⟩) ((ht.ext x).mono fun b hb => .inl hb)⟩, fun d hd => by
    obtain ⟨q, s, e⟩ := blk_tyc (t := ndT 4 m [elT t]) hd
    cases e
    exact ⟨hs, hb.lt⟩, x⟩
theorem t_array (m : Int) {v : Value} {t : Ty} {w : World} (h : TvV w v t) : Calls Tryz.prog 22 #[.int .i64 m, v] w (Ret fun r w' => TvV w' r (ndT 4 m [elT t]) ∧ Ext w w') := toV (n_array m h)
theorem n_channel (m : Int) {v : Value} {t : Ty} {w : World} {p : Nat → Prop} (h : TvP w p v t) : Calls Tryz.prog 24 #[.int .i64 m, v] w (Ret (Mk w p (ndT 6 m [elT t]))) := by
  obtain ⟨a, c, rfl, ht⟩ := h.ex
  refine (c_channel m t.kind t.n t.count t.vr a t.elems.length c t.name t.tag t.emb w).mono fun e w' he => ?_
  obtain ⟨r, rfl, b, rfl, hb, hs, x⟩ := he
  exact ⟨_, rfl, ⟨_, _, rfl, tys_el (t := t) hb (.inr ⟨_, rfl, 0, none, 1, 1, rfl⟩) ((ht.ext x).mono fun b hb => .inl hb)⟩, fun d hd => by
    obtain ⟨q, s, e⟩ := blk_tyc (t := ndT 6 m [elT t]) hd
    cases e
    exact ⟨hs, hb.lt⟩, x⟩
theorem t_channel (m : Int) {v : Value} {t : Ty} {w : World} (h : TvV w v t) : Calls Tryz.prog 24 #[.int .i64 m, v] w (Ret fun r w' => TvV w' r (ndT 6 m [elT t]) ∧ Ext w w') := toV (n_channel m h)
theorem n_mapping {v u : Value} {k t : Ty} {w : World} {p : Nat → Prop} (h1 : TvP w p v k) (h : TvP w p u t) : Calls Tryz.prog 26 #[v, u] w (Ret (Mk w p (ndT 5 0 [elT k, elT t]))) := by
  obtain ⟨a1, c1, rfl, hk⟩ := h1.ex
  obtain ⟨a, c, rfl, ht⟩ := h.ex
  refine (c_mapping k.kind k.n k.count k.vr a1 k.elems.length c1 k.name k.tag k.emb t.kind t.n t.count t.vr a t.elems.length c t.name t.tag t.emb w).mono fun e w' he => ?_
  obtain ⟨r, rfl, b, rfl, hb, hs, x⟩ := he
  exact ⟨_, rfl, ⟨_, _, rfl, tys_two (t := elT k) (u := elT t) hb (.inr ⟨_, rfl, 0, none, 2, 2, rfl⟩) ((hk.ext x).mono fun b hb => .inl hb) ((ht.ext x).mono fun b hb => .inl hb)⟩, fun d hd => by
    obtain ⟨q, s, e⟩ := blk_tyc (t := ndT 5 0 [elT k, elT t]) hd
    cases e
    exact ⟨hs, hb.lt⟩, x⟩
theorem t_mapping {v u : Value} {k t : Ty} {w : World} (h1 : TvV w v k) (h : TvV w u t) : Calls Tryz.prog 26 #[v, u] w (Ret fun r w' => TvV w' r (ndT 5 0 [elT k, elT t]) ∧ Ext w w') := toV (n_mapping h1 h)
theorem t_basic (n : Int) (w : World) : Calls Tryz.prog 27 #[.int .i64 n] w (Ret fun r w' => TvV w' r (ndT 0 n []) ∧ Ext w w') := by
  refine (c_basic n w).mono fun e w' he => ?_
  obtain ⟨r, rfl, rfl, x⟩ := he
  exact ⟨_, rfl, ⟨none, 0, rfl, .nil⟩, x⟩
/-- a new variable for a type -/
abbrev zT : List Value := tyl 0 0 0 false (.slice none 0 0) E0 E0 false
/-- declarations in memory -/
structure LW (D : List De) (a : Option Addr) (cp : Nat) (w : World) : Prop where
  hp : Prp w
  hd : DsV w (fun b => b < w.heap.size) (.slice a D.length cp) D
theorem LW.ext {D : List De} {a : Option Addr} {cp : Nat} {w w' : World} (x : Ext w w') (h : LW D a cp w) : LW D a cp w' := ⟨h.hp.ext x, (h.hd.ext x).mono fun b hb => by have := x.size; omega⟩
theorem TvV.tys {w : World} {t : Ty} {a : Option Addr} {c : Nat} (h : TvV w (.agg (tyc t a c).toArray) t) : TysV w (fun b => b < w.heap.size) a c t.elems := by
  obtain ⟨a', c', e, h⟩ := h.ex
  simp only [Value.agg.injEq, Array.mk.injEq, List.cons.injEq, Value.slice.injEq, true_and, and_true] at e
  obtain ⟨rfl, rfl⟩ := e
  exact h
/-- a valid type with its tree; its weight is at most n -/
structure VX (D : List De) (n : Nat) (t : Ty) (x : X) : Prop where
  vt : ValidT D t
  wt : wt t ≤ n
  ex : Exp D t x
  wf : WfX x
theorem VX.of {D : List De} (hD : OkD D) (hV : ValidD D) {n : Nat} {t : Ty} {x : X} (h : ValidT D t) (hw : Go.Proofs.YtlemfkbhcleopaaGreatDoor.wt t ≤ n) (hn : n ≤ 16777216) (hx : Exp D t x) : VX D n t x := ⟨h, hw, hx, exp_wf hD hV hx (h.good (by omega)) h.lg⟩
theorem VX.ofT {D : List De} (hD : OkD D) (hV : ValidD D) {n : Nat} {t : Ty} (h : ValidT D t) (hw : Go.Proofs.YtlemfkbhcleopaaGreatDoor.wt t ≤ n) (hn : n ≤ 16777216) : ∃ x, VX D n t x := by
  obtain ⟨x, hx⟩ := (h.good (by omega)).exp hD
  exact ⟨x, .of hD hV h hw hn hx⟩
theorem VX.int (D : List De) : VX D 1 (ndT 0 1 []) (.leaf 0 1) := by
  have hu : unaliasT D (ndT 0 1 []) = ndT 0 1 [] := by rw [unalias_lit (isAl_lit (show (ndT 0 1 []).kind ≠ 1 from (by decide : (0 : Int) ≠ 1)))]; rfl
  have hk : (ndT 0 1 []).kind = 0 := rfl
  have hel : (ndT 0 1 []).elems = [] := rfl
  have hx := Exp.leaf (D := D) (ndT 0 1 []) (by rw [hu]; exact .inl rfl)
  rw [hu] at hx
  refine ⟨⟨.mk _ _ ⟨by omega, by omega, fun _ => rfl, fun _ => (by decide : (0 : Int) ≤ 1), fun _ => ?_, fun _ => by omega, fun _ => by omega, fun _ => by omega, fun _ => by omega, fun _ => by omega⟩ fun j e he => by rw [hel] at he; simp at he, .mk _ (fun j e he => by rw [hel] at he; simp at he) ⟨fun _ => by omega, fun _ => by omega, fun _ => by omega, fun _ => by omega, fun _ => by omega, fun _ => by omega, fun _ => by omega, fun _ => by omega⟩⟩, by decide, hx, .leaf _ _⟩
  rw [hk, show limitN D 0 = 22 by simp [limitN]]
  exact (by decide : (1 : Int) < 22)
theorem cmp_int (D : List De) : Cmp D (ndT 0 1 []) true := .yes _ (.inl (by rw [under_lit (show (ndT 0 1 []).kind ≠ 1 from (by decide : (0 : Int) ≠ 1)) (by decide)]; rfl))
theorem t_Valid2 {D : List De} {a : Option Addr} {cp : Nat} {w : World} (lw : LW D a cp w) (hwd : wtD D ≤ 1048576) {t u : Ty} {v v' : Value} {a1 a2 : Option Addr} {c1 c2 r : Nat} (hr : Has w r (.cells (tyc t a1 c1 ++ tyc u a2 c2).toArray 26)) (hv : v = .agg (tyc t a1 c1).toArray) (hv' : v' = .agg (tyc u a2 c2).toArray) (T : TvV w v t) (T' : TvV w v' u) (hw : wt t ≤ 16777216) (hw' : wt u ≤ 16777216) :
    Calls Tryz.prog 12 #[.slice a D.length cp, .slice (some ⟨r, 0, none⟩) 2 2] w (Ret fun q w' => ∃ b, q = .bool b ∧ (b = true → ValidD D ∧ ValidT D t ∧ ValidT D u) ∧ Ext w w') := by
  subst hv hv'
  refine (c_Valid (l := [t, u]) (by omega) (by have := len_wtD D; omega) (by simpa using ⟨hw, hw'⟩) (by simp) a cp (some ⟨r, 0, none⟩) 2 w (fun b => b < w.heap.size) (fun b hb => hb) lw.hd (tys_two hr hr.lt T.tys T'.tys)).mono fun e w' ⟨q, he, b, e1, h, x⟩ => ⟨q, he, b, e1, fun hb => ?_, x⟩
  obtain ⟨h1, h2⟩ := h hb
  exact ⟨h1, h2 t (by simp), h2 u (by simp)⟩
theorem okD {D : List De} (hV : ValidD D) (hwd : wtD D ≤ 1048576) : OkD D := ⟨hV.sh, by omega, by have := len_wtD D; omega⟩
end Go.Proofs.YtlemfkbhcleopaaGreatDoor.Law
namespace Go.Proofs.YtlemfkbhcleopaaGreatDoor.Law
open Go Go.Kd
set_option maxRecDepth 100000

/-- rows that are types -/
def Rws (w : World) (p : Nat → Prop) (R : List (List Value)) (l : List Ty) : Prop := ∀ (i : Nat) r e, R[i]? = some r → l[i]? = some e → TyV w p r (elT e)
theorem rows_snoc {w : World} {p : Nat → Prop} {R : List (List Value)} {l : List Ty} {k : Nat} {r : List Value} {e : Ty} (hl : R.length = k) (h : Rws w p R l) (he : l[k]? = some e) (hr : TyV w p r (elT e)) : Rws w p (R ++ [r]) l := fun i r' e' h1 h2 => by
  rcases Nat.lt_trichotomy i k with hi | hi | hi
  · rw [List.getElem?_append_left (by omega)] at h1
    exact h i r' e' h1 h2
  · subst hi
    rw [List.getElem?_append_right (by omega), hl, Nat.sub_self] at h1
    simp at h1
    subst h1
    rw [he] at h2
    cases h2
    exact hr
  · rw [List.getElem?_eq_none (by simp; omega)] at h1
    cases h1
theorem own_tys {w0 w : World} {base n0 : Nat} {p : Nat → Prop} {v : Value} {R : List (List Value)} {l : List Ty} (ho : Own w base 26 8 v R) (hl : R.length = l.length) (hR : Rws w0 p R l) (x : Ext w0 w) (hb : n0 ≤ base) :
    ∃ a cp, v = .slice a l.length cp ∧ TysV w (fun b => p b ∨ v.ownBlock = some b) a cp (l.map elT) ∧ ∀ b, v.ownBlock = some b → n0 ≤ b ∧ b < w.heap.size := by
  obtain ⟨a, cp, e, h1, h2⟩ := ho.shape
  refine ⟨a, cp, by rw [e, hl], ⟨by rw [List.length_map]; omega, fun i => R.getD i [], ?_, fun i e' he => ?_⟩, fun b hb' => ⟨by have := (ho.lt b hb').1; omega, (ho.lt b hb').2⟩⟩
  · rw [List.length_map, ← hl]
    exact h2.mono fun b hb => .inr hb
  · rw [List.getElem?_map] at he
    cases hq : l[i]? with
    | none => rw [hq] at he; cases he
    | some t =>
      rw [hq] at he
      obtain rfl : elT t = e' := by simpa using he
      have hi : i < R.length := by rw [hl]; exact (List.getElem?_eq_some_iff.1 hq).1
      show TyV w _ (R.getD i []) (elT t)
      rw [List.getD_eq_getElem?_getD, List.getElem?_eq_getElem hi]
      exact ((hR i _ t (List.getElem?_eq_getElem hi) hq).ext x).mono fun b hb => .inl hb
theorem blk_own {k n c : Int} {vr : Bool} {a : Option Addr} {m cp : Nat} {nm tg : ByteArray} {em : Bool} {b : Nat} (h : blk (.agg (tyl k n c vr (.slice a m cp) nm tg em).toArray) b) : (Value.slice a m cp).ownBlock = some b := by
  obtain ⟨l, e, q, s, n', k', h⟩ := h
  cases e
  simp at h
  rw [h.1]
  rfl
theorem own_blk {k n c : Int} {vr : Bool} {a : Option Addr} {m cp : Nat} {nm tg : ByteArray} {em : Bool} {b : Nat} (h : (Value.slice a m cp).ownBlock = some b) : blk (.agg (tyl k n c vr (.slice a m cp) nm tg em).toArray) b := by
  cases a with
  | none => cases h
  | some a =>
    obtain ⟨q, s, t⟩ := a
    obtain rfl : q = b := by simpa [Value.ownBlock] using h
    exact ⟨_, rfl, s, t, m, cp, rfl⟩

set_option maxHeartbeats 8000000 in
theorem n_function {l1 l2 : List Ty} {a1 a2 : Option Addr} {cp1 cp2 : Nat} {vr : Bool} {w : World} {p : Nat → Prop} (ht1 : TysV w p a1 cp1 l1) (ht2 : TysV w p a2 cp2 l2) (hp : ∀ b, p b → b < w.heap.size) (hl1 : l1.length ≤ 2097152) (hl2 : l2.length ≤ 2097152) : Calls Tryz.prog 28 #[.slice a1 l1.length cp1, .slice a2 l2.length cp2, .bool vr] w (Ret (Mk w p (fnT l1 l2 vr))) := by
  refine W.enter (args := [.slice a1 l1.length cp1, .slice a2 l2.length cp2, .bool vr]) Tryz.func28 rfl Tryz.ntmps28 rfl rfl ?_
  refine zst ?_
  refine WU.stp rfl rfl rfl stp_alloc ?_
  rintro _ w1 ⟨b2, rfl, n1⟩
  have ib2 : Has w1 b2 (.cells zT.toArray 26) := n1.has
  refine zst ?_
  refine WU.stp rfl rfl rfl stp_alloc ?_
  rintro _ w2 ⟨b3, rfl, n2⟩
  refine WU.stp0 rfl rfl (stp_store_whole rfl rfl rfl rfl) ?_
  rintro _ w2' u2
  have ne2 := n1.num
  have ne3 := n2.num
  have sz1 := n1.size
  have sz2 := n2.size
  have su2 := u2.size
  have ib2' : Has w2' b2 (.cells zT.toArray 26) := u2.keep (ib2.ext' n2.ext) (by omega)
  have ib3' : Has w2' b3 (.cells (tyl 8 0 l1.length vr (.slice none 0 0) E0 E0 false).toArray 26) := u2.has
  have x2 : Ext w w2' := n1.ext.trans (u2.ofNew n2).ext
  refine zst ?_
  refine W.loop (σ := Nat × Value) (fun (k, _) => [(18, .int .i64 k), (17, .int .i64 l1.length), (16, .slice a1 l1.length cp1), (7, pt b3), (6, pt b2), (1, .slice a2 l2.length cp2)])
    (fun (k, v) D' wr => D' = [] ∧ k ≤ l1.length ∧ Ext w wr ∧ ∃ R, Own wr w2'.heap.size 26 8 v R ∧ (R.length = k ∧ Rws w p R (l1 ++ l2)) ∧ Has wr b3 (.cells (tyl 8 0 l1.length vr v E0 E0 false).toArray 26) ∧ Has wr b2 (.cells zT.toArray 26))
    (fun (k, _) => l1.length - k) (0, .slice none 0 0) ⟨rfl, Nat.zero_le _, x2, [], Own.nil .., ⟨rfl, fun i r e h => by simp at h⟩, ib3', ib2'⟩ (by exact sub_of ⟨rfl, rfl, rfl, rfl, rfl, rfl, trivial⟩) ?_
  rintro ⟨k, v⟩ D' wr ⟨rfl, hk, xr, R, ho, hR, ibx, hres⟩
  have hsz := xr.size
  have hb3 := ibx.lt
  have hbs : w2'.heap.size ≤ wr.heap.size := by omega
  refine zst ?_
  by_cases hlt : k < l1.length
  · rw [show decide ((k : Int) < (l1.length : Int)) = true by simpa using hlt]
    have he := List.getElem?_eq_getElem hlt
    generalize l1[k] = e at he
    obtain ⟨b, o, a3, c3, rfl, hpb, hc, hte⟩ := ht1.next he
    have hc' : Cells wr b (o + k * 8) (tyc e a3 c3) := hc.ext xr
    refine zst ?_
    refine WU.yld rfl rfl rfl (yld_load_cells rfl hc') ?_
    refine WU.stp rfl rfl rfl stp_alloc ?_
    rintro _ w3 ⟨b9, rfl, n3⟩
    refine WU.stp0 rfl rfl (stp_store_whole rfl rfl rfl rfl) ?_
    rintro _ w4 u4
    have x4 : Ext wr w4 := (u4.ofNew n3).ext
    have i4 : Has w4 b9 (.cells (tyc e a3 c3).toArray 26) := u4.has
    have ibx4 := ibx.ext' x4
    have nb9 := n3.num
    clear u4
    refine zst ?_
    obtain ⟨F, hFd⟩ : ∃ F : World → Prop, ∀ W, F W ↔ (Has W b9 (.cells (tyc e a3 c3).toArray 26) ∧ Has W b3 (.cells (tyl 8 0 l1.length vr v E0 E0 false).toArray 26)) := ⟨fun W => (Has W b9 (.cells (tyc e a3 c3).toArray 26) ∧ Has W b3 (.cells (tyl 8 0 l1.length vr v E0 E0 false).toArray 26)), fun _ => Iff.rfl⟩
    refine W.regR (R := fun a b => F a → F b) (fun _ h => h) (fun _ _ _ h k x => k (h x)) [(0, .q), (1, .q), (2, .q), (3, .l), (4, .l), (5, .l), (6, .q), (7, .z)] (by kernel_rfl) (by kernel_rfl) rfl ?_
    intro w5 x5 _
    have hF : F w5 := (hFd _).2 ⟨i4.ext' x5, ibx4.ext' x5⟩
    (repeat (first
        | refine WR.nilk ?_
        | refine WR.nil ?_
        | refine WR.yld (fun _ h => h) rfl rfl rfl rfl (fun w' hx => by obtain ⟨i1, i2⟩ := (hFd _).1 (hx hF); first | exact zyl | (exact by first | exact yld_load_cells rfl (Cells.has i1) | exact yld_load_cells rfl (Cells.has i2)) | exact yld_indexAddr_arr rfl rfl (by omega)) ?_
        | refine WR.skip rfl rfl rfl rfl ?_))
    refine WR.stp rfl rfl rfl rfl (stp_call rfl (c_element e.kind e.n e.count e.vr a3 e.elems.length c3 e.name e.tag e.emb w5)) ?_
    rintro _ w6 ⟨rfl, x6⟩
    have hF : F w6 := (hFd _).2 ⟨((hFd _).1 hF).1.ext' x6, ((hFd _).1 hF).2.ext' x6⟩
    refine ⟨fun _ => hF, ?_⟩
    (repeat (first
        | refine WR.nilk ?_
        | refine WR.nil ?_
        | refine WR.yld (fun _ h => h) rfl rfl rfl rfl (fun w' hx => by obtain ⟨i1, i2⟩ := (hFd _).1 (hx hF); first | exact zyl | (exact by first | exact yld_load_cells rfl (Cells.has i1) | exact yld_load_cells rfl (Cells.has i2)) | exact yld_indexAddr_arr rfl rfl (by omega)) ?_
        | refine WR.skip rfl rfl rfl rfl ?_))
    refine WR.stp rfl rfl rfl rfl (stp_buildSlice rfl rfl rfl rfl rfl) ?_
    rintro _ w7 ⟨b7, rfl, n7⟩
    have hF : F w7 := (hFd _).2 ⟨((hFd _).1 hF).1.ext' n7.ext, ((hFd _).1 hF).2.ext' n7.ext⟩
    refine ⟨fun _ => hF, ?_⟩
    (repeat (first
        | refine WR.nilk ?_
        | refine WR.nil ?_
        | refine WR.yld (fun _ h => h) rfl rfl rfl rfl (fun w' hx => by obtain ⟨i1, i2⟩ := (hFd _).1 (hx hF); first | exact zyl | (exact by first | exact yld_load_cells rfl (Cells.has i1) | exact yld_load_cells rfl (Cells.has i2)) | exact yld_indexAddr_arr rfl rfl (by omega)) ?_
        | refine WR.skip rfl rfl rfl rfl ?_))
    have x47 := (x4.trans x5).trans (x6.trans n7.ext)
    have ho7 := ho.ext x47
    have s7 := x47.size
    have i7 : Has w7 b7 (.cells (tyc (elT e) a3 c3).toArray 26) := n7.has
    refine WR.stp rfl rfl rfl rfl (stp_append1 (el := 26) rfl rfl ho7 (Cells.has i7) rfl rfl (by omega) (by simp [Value.oneCell']) (by have := hR.1; omega) (by omega)) ?_
    rintro v' w8 ⟨o8, a8, g8⟩
    have hF : F w8 := by
      obtain ⟨i1, i2⟩ := (hFd _).1 hF
      exact (hFd _).2 ⟨a8.keep i1 fun g hg => by have := ho.lt g hg; omega, a8.keep i2 fun g hg => by have := ho.lt g hg; omega⟩
    refine ⟨fun _ => hF, ?_⟩
    (repeat (first
        | refine WR.nilk ?_
        | refine WR.nil ?_
        | refine WR.yld (fun _ h => h) rfl rfl rfl rfl (fun w' hx => by obtain ⟨i1, i2⟩ := (hFd _).1 (hx hF); first | exact zyl | (exact by first | exact yld_load_cells rfl (Cells.has i1) | exact yld_load_cells rfl (Cells.has i2)) | exact yld_indexAddr_arr rfl rfl (by omega)) ?_
        | refine WR.skip rfl rfl rfl rfl ?_))
    have jbx := ((hFd _).1 hF).2
    refine WR.last0 rfl rfl rfl (stp_store_cell rfl rfl rfl (by obtain ⟨a', cp', e', _⟩ := o8.shape; rw [e']; rfl)) ?_
    rintro _ w9 u9
    (repeat (first
        | refine WR.nilk ?_
        | refine WR.nil ?_
        | refine WR.yld (fun _ h => h) rfl rfl rfl rfl (fun w' hx => by obtain ⟨i1, i2⟩ := (hFd _).1 (hx hF); first | exact zyl | (exact by first | exact yld_load_cells rfl (Cells.has i1) | exact yld_load_cells rfl (Cells.has i2)) | exact yld_indexAddr_arr rfl rfl (by omega)) ?_
        | refine WR.skip rfl rfl rfl rfl ?_))
    refine zst ?_
    have x8 := a8.ext ho7 (xr.trans x47) (by omega)
    have x9 := u9.ext x8 (by omega)
    refine ⟨(k + 1, v'), by show l1.length - (k + 1) < l1.length - k; omega, ⟨rfl, by omega, x9, R ++ [tyc (elT e) a3 c3], o8.upd u9 (fun g hg => by have := o8.lt g hg; omega), ⟨by rw [List.length_append, hR.1]; rfl, rows_snoc (l := l1 ++ l2) hR.1 hR.2 (by rw [List.getElem?_append_left (by omega)]; exact he) ((TyV.of_tys (t := elT e) hte))⟩, u9.has, u9.keep (a8.keep (hres.ext' x47) fun g hg => by have := ho.lt g hg; omega) (by omega)⟩, sub_of ⟨rfl, rfl, rfl, rfl, rfl, rfl, trivial⟩⟩
  · rw [show decide ((k : Int) < (l1.length : Int)) = false by simpa using hlt]
    obtain rfl : k = l1.length := by omega
    refine zst ?_
    refine W.loop (σ := Nat × Value) (fun (k, _) => [(32, .int .i64 k), (31, .int .i64 l2.length), (30, .slice a2 l2.length cp2), (7, pt b3), (6, pt b2)])
      (fun (k, v) D' wr => D' = [] ∧ k ≤ l2.length ∧ Ext w wr ∧ ∃ R, Own wr w2'.heap.size 26 8 v R ∧ (R.length = l1.length + k ∧ Rws w p R (l1 ++ l2)) ∧ Has wr b3 (.cells (tyl 8 0 l1.length vr v E0 E0 false).toArray 26) ∧ Has wr b2 (.cells zT.toArray 26))
      (fun (k, _) => l2.length - k) (0, v) ⟨rfl, Nat.zero_le _, xr, R, ho, hR, ibx, hres⟩ (by exact sub_of ⟨rfl, rfl, rfl, rfl, rfl, trivial⟩) ?_
    clear ho hR ibx hres xr hsz hb3 hbs
    rintro ⟨k, v⟩ D' wr ⟨rfl, hk, xr, R, ho, hR, ibx, hres⟩
    have hsz := xr.size
    have hb3 := ibx.lt
    have hbs : w2'.heap.size ≤ wr.heap.size := by omega
    refine zst ?_
    by_cases hlt : k < l2.length
    · rw [show decide ((k : Int) < (l2.length : Int)) = true by simpa using hlt]
      have he := List.getElem?_eq_getElem hlt
      generalize l2[k] = e at he
      obtain ⟨b, o, a3, c3, rfl, hpb, hc, hte⟩ := ht2.next he
      have hc' : Cells wr b (o + k * 8) (tyc e a3 c3) := hc.ext xr
      refine zst ?_
      refine WU.yld rfl rfl rfl (yld_load_cells rfl hc') ?_
      refine WU.stp rfl rfl rfl stp_alloc ?_
      rintro _ w3 ⟨b9, rfl, n3⟩
      refine WU.stp0 rfl rfl (stp_store_whole rfl rfl rfl rfl) ?_
      rintro _ w4 u4
      have x4 : Ext wr w4 := (u4.ofNew n3).ext
      have i4 : Has w4 b9 (.cells (tyc e a3 c3).toArray 26) := u4.has
      have ibx4 := ibx.ext' x4
      have nb9 := n3.num
      clear u4
      refine zst ?_
      obtain ⟨F, hFd⟩ : ∃ F : World → Prop, ∀ W, F W ↔ (Has W b9 (.cells (tyc e a3 c3).toArray 26) ∧ Has W b3 (.cells (tyl 8 0 l1.length vr v E0 E0 false).toArray 26)) := ⟨fun W => (Has W b9 (.cells (tyc e a3 c3).toArray 26) ∧ Has W b3 (.cells (tyl 8 0 l1.length vr v E0 E0 false).toArray 26)), fun _ => Iff.rfl⟩
      refine W.regR (R := fun a b => F a → F b) (fun _ h => h) (fun _ _ _ h k x => k (h x)) [(0, .q), (1, .q), (2, .q), (3, .l), (4, .l), (5, .l), (6, .q), (7, .z)] (by kernel_rfl) (by kernel_rfl) rfl ?_
      intro w5 x5 _
      have hF : F w5 := (hFd _).2 ⟨i4.ext' x5, ibx4.ext' x5⟩
      (repeat (first
          | refine WR.nilk ?_
          | refine WR.nil ?_
          | refine WR.yld (fun _ h => h) rfl rfl rfl rfl (fun w' hx => by obtain ⟨i1, i2⟩ := (hFd _).1 (hx hF); first | exact zyl | (exact by first | exact yld_load_cells rfl (Cells.has i1) | exact yld_load_cells rfl (Cells.has i2)) | exact yld_indexAddr_arr rfl rfl (by omega)) ?_
          | refine WR.skip rfl rfl rfl rfl ?_))
      refine WR.stp rfl rfl rfl rfl (stp_call rfl (c_element e.kind e.n e.count e.vr a3 e.elems.length c3 e.name e.tag e.emb w5)) ?_
      rintro _ w6 ⟨rfl, x6⟩
      have hF : F w6 := (hFd _).2 ⟨((hFd _).1 hF).1.ext' x6, ((hFd _).1 hF).2.ext' x6⟩
      refine ⟨fun _ => hF, ?_⟩
      (repeat (first
          | refine WR.nilk ?_
          | refine WR.nil ?_
          | refine WR.yld (fun _ h => h) rfl rfl rfl rfl (fun w' hx => by obtain ⟨i1, i2⟩ := (hFd _).1 (hx hF); first | exact zyl | (exact by first | exact yld_load_cells rfl (Cells.has i1) | exact yld_load_cells rfl (Cells.has i2)) | exact yld_indexAddr_arr rfl rfl (by omega)) ?_
          | refine WR.skip rfl rfl rfl rfl ?_))
      refine WR.stp rfl rfl rfl rfl (stp_buildSlice rfl rfl rfl rfl rfl) ?_
      rintro _ w7 ⟨b7, rfl, n7⟩
      have hF : F w7 := (hFd _).2 ⟨((hFd _).1 hF).1.ext' n7.ext, ((hFd _).1 hF).2.ext' n7.ext⟩
      refine ⟨fun _ => hF, ?_⟩
      (repeat (first
          | refine WR.nilk ?_
          | refine WR.nil ?_
          | refine WR.yld (fun _ h => h) rfl rfl rfl rfl (fun w' hx => by obtain ⟨i1, i2⟩ := (hFd _).1 (hx hF); first | exact zyl | (exact by first | exact yld_load_cells rfl (Cells.has i1) | exact yld_load_cells rfl (Cells.has i2)) | exact yld_indexAddr_arr rfl rfl (by omega)) ?_
          | refine WR.skip rfl rfl rfl rfl ?_))
      have x47 := (x4.trans x5).trans (x6.trans n7.ext)
      have ho7 := ho.ext x47
      have s7 := x47.size
      have i7 : Has w7 b7 (.cells (tyc (elT e) a3 c3).toArray 26) := n7.has
      refine WR.stp rfl rfl rfl rfl (stp_append1 (el := 26) rfl rfl ho7 (Cells.has i7) rfl rfl (by omega) (by simp [Value.oneCell']) (by have := hR.1; omega) (by omega)) ?_
      rintro v' w8 ⟨o8, a8, g8⟩
      have hF : F w8 := by
        obtain ⟨i1, i2⟩ := (hFd _).1 hF
        exact (hFd _).2 ⟨a8.keep i1 fun g hg => by have := ho.lt g hg; omega, a8.keep i2 fun g hg => by have := ho.lt g hg; omega⟩
      refine ⟨fun _ => hF, ?_⟩
      (repeat (first
          | refine WR.nilk ?_
          | refine WR.nil ?_
          | refine WR.yld (fun _ h => h) rfl rfl rfl rfl (fun w' hx => by obtain ⟨i1, i2⟩ := (hFd _).1 (hx hF); first | exact zyl | (exact by first | exact yld_load_cells rfl (Cells.has i1) | exact yld_load_cells rfl (Cells.has i2)) | exact yld_indexAddr_arr rfl rfl (by omega)) ?_
          | refine WR.skip rfl rfl rfl rfl ?_))
      have jbx := ((hFd _).1 hF).2
      refine WR.last0 rfl rfl rfl (stp_store_cell rfl rfl rfl (by obtain ⟨a', cp', e', _⟩ := o8.shape; rw [e']; rfl)) ?_
      rintro _ w9 u9
      (repeat (first
          | refine WR.nilk ?_
          | refine WR.nil ?_
          | refine WR.yld (fun _ h => h) rfl rfl rfl rfl (fun w' hx => by obtain ⟨i1, i2⟩ := (hFd _).1 (hx hF); first | exact zyl | (exact by first | exact yld_load_cells rfl (Cells.has i1) | exact yld_load_cells rfl (Cells.has i2)) | exact yld_indexAddr_arr rfl rfl (by omega)) ?_
          | refine WR.skip rfl rfl rfl rfl ?_))
      refine zst ?_
      have x8 := a8.ext ho7 (xr.trans x47) (by omega)
      have x9 := u9.ext x8 (by omega)
      refine ⟨(k + 1, v'), by show l2.length - (k + 1) < l2.length - k; omega, ⟨rfl, by omega, x9, R ++ [tyc (elT e) a3 c3], o8.upd u9 (fun g hg => by have := o8.lt g hg; omega), ⟨by rw [List.length_append, hR.1]; rfl, rows_snoc (l := l1 ++ l2) hR.1 hR.2 (by rw [List.getElem?_append_right (by omega), show l1.length + k - l1.length = k by omega]; exact he) ((TyV.of_tys (t := elT e) hte))⟩, u9.has, u9.keep (a8.keep (hres.ext' x47) fun g hg => by have := ho.lt g hg; omega) (by omega)⟩, sub_of ⟨rfl, rfl, rfl, rfl, rfl, trivial⟩⟩
    · rw [show decide ((k : Int) < (l2.length : Int)) = false by simpa using hlt]
      obtain ⟨a', cp', rfl, h1, h2⟩ := own_tys ho (by rw [hR.1, List.length_append]; omega) hR.2 xr (n0 := w.heap.size) (by omega)
      refine zst ?_
      refine WU.stp0 rfl rfl (stp_store_whole rfl rfl rfl rfl) ?_
      rintro _ w9 u9
      refine zst ?_
      have x9 := u9.ext xr (by omega)
      refine finc (.inl rfl) rfl rfl ⟨⟨a', cp', by rw [show (l1 ++ l2).length = (fnT l1 l2 vr).elems.length from (List.length_map _).symm]; rfl, ?_⟩, fun b hb => ?_, x9⟩
      · exact (h1.upd u9 (fun hq => by rcases hq with hq | hq; (have := hp b2 hq; omega); (have := ho.lt b2 hq; omega))).mono fun b hb => hb.elim .inl fun hb => .inr (own_blk hb)
      · have := h2 b (blk_own hb)
        have := u9.size
        omega
end Go.Proofs.YtlemfkbhcleopaaGreatDoor.Law
namespace Go.Proofs.YtlemfkbhcleopaaGreatDoor.Law
open Go Go.Kd
set_option maxRecDepth 100000

/-- a slice of types -/
structure LsV (w : World) (v : Value) (l : List Ty) : Prop where
  ex : ∃ a c, v = .slice a l.length c ∧ TysV w (fun b => b < w.heap.size) a c l
theorem t_function {l1 l2 : List Ty} {v1 v2 : Value} {vr : Bool} {w : World} (h1 : LsV w v1 l1) (h2 : LsV w v2 l2) (hl1 : l1.length ≤ 2097152) (hl2 : l2.length ≤ 2097152) : Calls Tryz.prog 28 #[v1, v2, .bool vr] w (Ret fun r w' => TvV w' r (fnT l1 l2 vr) ∧ Ext w w') := by
  obtain ⟨a1, c1, rfl, ht1⟩ := h1.ex
  obtain ⟨a2, c2, rfl, ht2⟩ := h2.ex
  exact toV (n_function ht1 ht2 (fun b hb => hb) hl1 hl2)
end Go.Proofs.YtlemfkbhcleopaaGreatDoor.Law
namespace Go.Proofs.YtlemfkbhcleopaaGreatDoor.Law
open Go Go.Kd
set_option maxRecDepth 100000

/-- a type as a field -/
def fldT (nm : ByteArray) (t : Ty) : Ty := .mk t.kind t.n t.count t.vr t.elems nm eB false
theorem Eqv.fldT (nm : ByteArray) (t : Ty) : Eqv t (fldT nm t) := ⟨rfl, rfl, rfl, rfl, rfl⟩
theorem wt_fldT (nm : ByteArray) (t : Ty) : wt (fldT nm t) ≤ wt t + nm.size := by rw [wt_eq t, wt_eq]; show 1 + (nm.size + 0) + _ ≤ _; simp only [Law.fldT, Ty.elems]; omega
theorem n_field {nm : ByteArray} {v : Value} {t : Ty} {w : World} {p : Nat → Prop} (h : TvP w p v t) : Calls Tryz.prog 19 #[.string nm, v, .string E0] w (Ret fun r w' => TvP w' p r (fldT nm t) ∧ Ext w w') := by
  obtain ⟨a, c, rfl, ht⟩ := h.ex
  exact (c_field nm E0 t.kind t.n t.count t.vr a t.elems.length c t.name t.tag t.emb w).mono fun _ _ ⟨r, e, h, x⟩ => ⟨r, e, ⟨a, c, h, ht.ext x⟩, x⟩
theorem t_field {nm : ByteArray} {v : Value} {t : Ty} {w : World} (h : TvV w v t) : Calls Tryz.prog 19 #[.string nm, v, .string E0] w (Ret fun r w' => TvV w' r (fldT nm t) ∧ Ext w w') :=
  (n_field h).mono fun _ _ ⟨r, e, h, x⟩ => ⟨r, e, h.mono fun b hb => by have := x.size; omega, x⟩
abbrev nmA : ByteArray := ⟨#[65]⟩
abbrev nmU : ByteArray := ⟨#[95]⟩
def st2 (x y : Ty) : Ty := ndT 7 0 [fldT nmA x, fldT nmU y]
theorem t_of2 {k n : Int} {t u : Ty} {v v' : Value} {a1 a2 : Option Addr} {c1 c2 r : Nat} {w : World} (hr : Has w r (.cells (tyc t a1 c1 ++ tyc u a2 c2).toArray 26)) (hv : v = .agg (tyc t a1 c1).toArray) (hv' : v' = .agg (tyc u a2 c2).toArray) (T : TvV w v t) (T' : TvV w v' u) :
    Calls Tryz.prog 21 #[.int .i64 k, .int .i64 n, .slice (some ⟨r, 0, none⟩) 2 2] w (Ret fun q w' => TvV w' q (ndT k n [t, u]) ∧ Ext w w') := by
  subst hv hv'
  exact (c_of k n (some ⟨r, 0, none⟩) 2 2 w).mono fun _ _ ⟨q, e, h, x⟩ => ⟨q, e, ⟨_, _, h, ((tys_two hr hr.lt T.tys T'.tys).ext x).mono fun b hb => by have := x.size; omega⟩, x⟩
theorem uniq_AU : Uniq [nmA.toList, nmU.toList] := by
  rw [Lib.toList_data, Lib.toList_data]
  refine ⟨fun i s h => ?_, fun i j s hij h1 h2 => ?_⟩
  · match i with
    | 0 =>
      obtain rfl : [65] = s := by simpa using h
      refine ⟨by decide, .inr fun i c h => ?_⟩
      match i with
      | 0 =>
        obtain rfl : (65 : UInt8) = c := by simpa using h
        exact .inl (by decide)
      | i + 1 => simp at h
    | 1 =>
      obtain rfl : [95] = s := by simpa using h
      exact ⟨by decide, .inl rfl⟩
    | i + 2 => simp at h
  · match i, j, hij with
    | 0, 1, _ =>
      obtain rfl : [65] = s := by simpa using h1
      simp at h2
    | 0, j + 2, _ => simp at h2
    | 1, j + 2, _ => simp at h2
    | i + 2, _, _ => simp at h1
theorem valid_st2 {D : List De} {x y : Ty} (hx : ValidT D x) (hy : ValidT D y) : ValidT D (st2 x y) := by
  have he : ∀ (j : Nat) e, (st2 x y).elems[j]? = some e → e = fldT nmA x ∨ e = fldT nmU y := fun j e he => by
    have he : [fldT nmA x, fldT nmU y][j]? = some e := he
    match j with
    | 0 => exact .inl (by simpa using he.symm)
    | 1 => exact .inr (by simpa using he.symm)
    | j + 2 => simp at he
  have hk : (st2 x y).kind = 7 := rfl
  have hn : (st2 x y).n = 0 := rfl
  refine ⟨.mk _ _ ⟨by omega, by omega, fun hl => ?_, fun _ => by omega, fun _ => ?_, fun _ => by omega, fun _ => by omega, fun _ => by omega, fun _ => by omega, fun _ => by omega⟩ fun j e hj => ?_, .mk _ (fun j e hj => ?_) ⟨fun _ => by omega, fun _ i e hi he' => ?_, fun _ => ?_, fun _ => by omega, fun _ => by omega, fun _ => by omega, fun _ => by omega, fun _ => by omega⟩⟩
  · rw [hk] at hl; simp [elemsN] at hl
  · rw [hk, hn]; simp [limitN]
  · rcases he j e hj with rfl | rfl
    · exact ((Eqv.fldT nmA x).shaped hx.sh).any _
    · exact ((Eqv.fldT nmU y).shaped hy.sh).any _
  · rcases he j e hj with rfl | rfl
    · exact (Eqv.fldT nmA x).legal hx.lg
    · exact (Eqv.fldT nmU y).legal hy.lg
  · rcases he i e hi with rfl | rfl <;> cases he'
  · exact uniq_AU
theorem under_nd {D : List De} {k n : Int} {l : List Ty} (h0 : k ≠ 0) (h1 : k ≠ 1) : underT D (ndT k n l) = ndT k n l := by
  have hk : (ndT k n l).kind = k := rfl
  rw [under_lit (by omega) (by omega), norm_named (by omega)]
theorem cmp_st2 {D : List De} {x y : Ty} {b c : Bool} (hx : Cmp D x b) (hy : Cmp D y c) : Cmp D (st2 x y) (b && c) := by
  have hu : underT D (st2 x y) = st2 x y := under_nd (by decide) (by decide)
  have h := Cmp.all (D := D) (st2 x y) [b, c] (by rw [hu]; exact .inr rfl) (by rw [hu]; rfl) fun i e q he hq => by
    rw [hu] at he
    have he : [fldT nmA x, fldT nmU y][i]? = some e := he
    match i with
    | 0 => simp at he hq; subst he hq; exact (Eqv.fldT nmA x).cmp hx
    | 1 => simp at he hq; subst he hq; exact (Eqv.fldT nmU y).cmp hy
    | i + 2 => simp at he
  simpa using h
theorem cmp_arr {D : List De} {x : Ty} {n : Int} {b : Bool} (hx : Cmp D x b) : Cmp D (ndT 4 n [elT x]) b := by
  have hu : underT D (ndT 4 n [elT x]) = ndT 4 n [elT x] := under_nd (by decide) (by decide)
  have h := Cmp.all (D := D) (ndT 4 n [elT x]) [b] (by rw [hu]; exact .inl rfl) (by rw [hu]; rfl) fun i e q he hq => by
    rw [hu] at he
    have he : [elT x][i]? = some e := he
    match i with
    | 0 => simp at he hq; subst he hq; exact (Eqv.elT x).cmp hx
    | i + 1 => simp at he
  simpa using h
theorem cmp_yes {D : List De} {k n : Int} {l : List Ty} (hk : k = 2 ∨ k = 6) : Cmp D (ndT k n l) true := by
  have hu : underT D (ndT k n l) = ndT k n l := under_nd (by omega) (by omega)
  refine .yes _ ?_
  rw [hu]
  show k = 0 ∨ k = 1 ∨ k = 2 ∨ k = 6 ∨ k = 9
  omega
theorem cmp_no {D : List De} {k n : Int} {l : List Ty} (hk : k = 3 ∨ k = 5) : Cmp D (ndT k n l) false := by
  have hu : underT D (ndT k n l) = ndT k n l := under_nd (by omega) (by omega)
  refine .no _ ?_
  rw [hu]
  show k = 3 ∨ k = 5 ∨ k = 8
  omega
theorem cmp_fn {D : List De} {l1 l2 : List Ty} {vr : Bool} : Cmp D (fnT l1 l2 vr) false := by
  have hk : (fnT l1 l2 vr).kind = 8 := rfl
  refine .no _ ?_
  rw [under_lit (by omega) (by omega), norm_named (by omega)]
  exact .inr (.inr rfl)
theorem valid_fn1 {D : List De} {x : Ty} (hx : ValidT D x) : ValidT D (fnT [] [x] false) := by
  have he : ∀ (j : Nat) e, (fnT [] [x] false).elems[j]? = some e → e = elT x := fun j e he => by
    have he : [elT x][j]? = some e := he
    match j with
    | 0 => simpa using he.symm
    | j + 1 => simp at he
  have hk : (fnT [] [x] false).kind = 8 := rfl
  have hc : (fnT [] [x] false).count = 0 := rfl
  have hel : (fnT [] [x] false).elems = [].map elT ++ [x].map elT := rfl
  refine ⟨.mk _ _ ⟨by omega, by omega, fun hl => ?_, fun hl => ?_, fun hl => ?_, fun _ => by omega, fun _ => by omega, fun _ => ?_, fun _ hv => ?_, fun _ => by omega⟩ fun j e hj => ?_, .mk _ (fun j e hj => ?_) ⟨fun _ => by omega, fun _ => by omega, fun _ => by omega, fun _ => .inl ?_, fun _ => .inl ?_, fun _ => by omega, fun _ => by omega, fun _ => by omega⟩⟩
  · rw [hk] at hl; simp [elemsN] at hl
  · rw [hk] at hl; simp [limitN] at hl
  · rw [hk] at hl; simp [limitN] at hl
  · rw [hc]; omega
  · cases hv
  · rw [he j e hj]; exact ((Eqv.elT x).shaped hx.sh).any _
  · rw [he j e hj]; exact (Eqv.elT x).legal hx.lg
  · rw [hc]; intro t ht; simp at ht
  · rw [hc]; exact names_elT [x]
/-- impl.Comparable of a type -/
theorem t_Cmp {D : List De} {t : Ty} {q : Bool} {a : Option Addr} {cp : Nat} {v : Value} {w : World} (lw : LW D a cp w) (hV : ValidD D) (hwd : wtD D ≤ 1048576) (h : TvV w v t) (hT : ValidT D t) (hw : wt t ≤ 16777216) (hc : Cmp D t q) :
    Calls Tryz.prog 20 #[.slice a D.length cp, v] w (Ret fun r w' => r = .bool q ∧ Ext w w') := by
  obtain ⟨a1, c1, rfl, ht⟩ := h.ex
  exact c_iComparable lw.hp hV hT (by omega) hw hc lw.hd ht
end Go.Proofs.YtlemfkbhcleopaaGreatDoor.Law
namespace Go.Proofs.YtlemfkbhcleopaaGreatDoor.Law
open Go Go.Kd
set_option maxRecDepth 100000

set_option maxHeartbeats 8000000 in
theorem c_FnComparableParts {D : List De} {a : Option Addr} {cp : Nat} {t1 : Ty} {a1 : Option Addr} {c1 : Nat} {t2 : Ty} {a2 : Option Addr} {c2 : Nat} {i3 : Int} {w : World} (hp : Prp w) (hi3 : (-9223372036854775808 : Int) ≤ i3 ∧ i3 ≤ 9223372036854775807) (hwd : wtD D ≤ 1048576) (hw1 : wt t1 ≤ 1048576) (hw2 : wt t2 ≤ 1048576) (hd : DsV w (fun b => b < w.heap.size) (.slice a D.length cp) D) (ht1 : TysV w (fun b => b < w.heap.size) a1 c1 t1.elems) (ht2 : TysV w (fun b => b < w.heap.size) a2 c2 t2.elems) :
    Calls Tryz.prog 9 #[.slice a D.length cp, .agg (tyc t1 a1 c1).toArray, .agg (tyc t2 a2 c2).toArray, .int .i64 i3] w (Ret fun r w' => r = .bool true ∧ Ext w w') := by
  have hDl : D.length ≤ 16777216 := by have := len_wtD D; omega
  have lw : LW D a cp w := ⟨hp, hd⟩
  have T1 : TvV w (.agg (tyc t1 a1 c1).toArray) t1 := ⟨⟨_, _, rfl, ht1⟩⟩
  have T2 : TvV w (.agg (tyc t2 a2 c2).toArray) t2 := ⟨⟨_, _, rfl, ht2⟩⟩
  have x0 : Ext w w := Ext.rfl' w
  have _ := hi3
  refine W.enter (args := [.slice a D.length cp, .agg (tyc t1 a1 c1).toArray, .agg (tyc t2 a2 c2).toArray, .int .i64 i3]) Tryz.func9 rfl Tryz.ntmps9 rfl rfl ?_
  refine zst ?_
  refine WU.stp rfl rfl rfl (by first | exact stp_box rfl rfl | exact stp_box1 rfl rfl) ?_
  rintro _ w1 ⟨b1, rfl, n1⟩
  replace lw := lw.ext n1.ext
  replace T1 := T1.ext n1.ext
  replace T2 := T2.ext n1.ext
  replace x0 := x0.trans n1.ext
  have ib1 : Has w1 b1 (.cells (tyc t1 a1 c1).toArray 26) := n1.has
  refine zst ?_
  refine WU.stp rfl rfl rfl (by first | exact stp_box rfl rfl | exact stp_box1 rfl rfl) ?_
  rintro _ w2 ⟨b2, rfl, n2⟩
  replace lw := lw.ext n2.ext
  replace T1 := T1.ext n2.ext
  replace T2 := T2.ext n2.ext
  replace ib1 := ib1.ext' n2.ext
  replace x0 := x0.trans n2.ext
  have ib2 : Has w2 b2 (.cells (tyc t2 a2 c2).toArray 26) := n2.has
  refine zst ?_
  rw [show decide ((2147483647 : Int) < (D.length : Int)) = false by simp; omega]
  refine zst ?_
  refine WU.stp rfl rfl rfl (stp_call rfl (c_zzFits1 t1 a1 c1 _ (by omega))) ?_
  rintro _ w3 ⟨rfl, x3⟩
  replace lw := lw.ext x3
  replace T1 := T1.ext x3
  replace T2 := T2.ext x3
  replace ib1 := ib1.ext' x3
  replace ib2 := ib2.ext' x3
  replace x0 := x0.trans x3
  refine zst ?_
  refine WU.stp rfl rfl rfl (stp_call rfl (c_zzFits1 t2 a2 c2 _ (by omega))) ?_
  rintro _ w4 ⟨rfl, x4⟩
  replace lw := lw.ext x4
  replace T1 := T1.ext x4
  replace T2 := T2.ext x4
  replace ib1 := ib1.ext' x4
  replace ib2 := ib2.ext' x4
  replace x0 := x0.trans x4
  refine zst ?_
  refine WU.stp rfl rfl rfl (stp_buildSlice rfl rfl rfl rfl rfl) ?_
  rintro _ w5 ⟨r5, rfl, n5⟩
  replace lw := lw.ext n5.ext
  replace T1 := T1.ext n5.ext
  replace T2 := T2.ext n5.ext
  replace ib1 := ib1.ext' n5.ext
  replace ib2 := ib2.ext' n5.ext
  replace x0 := x0.trans n5.ext
  have hr : Has w5 r5 (.cells (tyc t1 a1 c1 ++ tyc t2 a2 c2).toArray 26) := n5.has
  refine zst ?_
  refine WU.stp rfl rfl rfl (stp_call rfl (t_Valid2 lw hwd hr rfl rfl T1 T2 (by omega) (by omega))) ?_
  rintro _ w6 ⟨v, rfl, hv, x6⟩
  replace lw := lw.ext x6
  replace T1 := T1.ext x6
  replace T2 := T2.ext x6
  replace ib1 := ib1.ext' x6
  replace ib2 := ib2.ext' x6
  replace x0 := x0.trans x6
  cases v with
  | false =>
    refine zst ?_
    exact fin1 (.inl rfl) rfl rfl ⟨rfl, x0⟩
  | true =>
    obtain ⟨hV, hT, hU⟩ := hv rfl
    have hok := okD hV hwd
    obtain ⟨x, V⟩ := VX.ofT hok hV (n := 1048576) hT hw1 (by decide)
    obtain ⟨y, U⟩ := VX.ofT hok hV (n := 1048576) hU hw2 (by decide)
    have q3 : 0 ≤ i3 % 1000 ∧ i3 % 1000 < 1000 := ⟨Int.emod_nonneg _ (by decide), Int.emod_lt_of_pos _ (by decide)⟩
    obtain ⟨q1, C1⟩ := good_cmp hok (hT.good (by omega))
    obtain ⟨q2, C2⟩ := good_cmp hok (hU.good (by omega))
    have wst : wt (st2 t1 t2) ≤ 16777216 := by
      unfold st2
      rw [wt_nd]
      have := wt_fldT nmA t1
      have := wt_fldT nmU t2
      have hA : nmA.size = 1 := rfl
      have hU : nmU.size = 1 := rfl
      simp only [wts]
      omega
    have wf : wt (fnT [] [t1] false) ≤ 16777216 := by have := wt_fn [] [t1] false; simp only [wts] at this; omega
    refine zst ?_
    refine W.regD [(0, .q), (1, .q), (3, .q), (4, .q), (2, .l), (5, .l), (6, .q), (7, .q)] (by kernel_rfl) (by kernel_rfl) rfl ?_
    intro w7 x7 _
    replace lw := lw.ext x7
    replace T1 := T1.ext x7
    replace T2 := T2.ext x7
    replace ib1 := ib1.ext' x7
    replace ib2 := ib2.ext' x7
    replace x0 := x0.trans x7
    refine zsd ?_
    refine WD.stp rfl rfl rfl rfl (stp_call rfl (t_Cmp lw hV hwd T1 hT (by omega) C1)) ?_
    rintro _ w8 ⟨rfl, x8⟩
    refine ⟨by first | assumption | exact Ext.rfl' _ | infer_instance, ?_⟩
    replace lw := lw.ext x8
    replace T1 := T1.ext x8
    replace T2 := T2.ext x8
    replace ib1 := ib1.ext' x8
    replace ib2 := ib2.ext' x8
    replace x0 := x0.trans x8
    refine zsd ?_
    refine WD.stp rfl rfl rfl rfl (stp_call rfl (t_Cmp lw hV hwd T2 hU (by omega) C2)) ?_
    rintro _ w9 ⟨rfl, x9⟩
    refine ⟨by first | assumption | exact Ext.rfl' _ | infer_instance, ?_⟩
    replace lw := lw.ext x9
    replace T1 := T1.ext x9
    replace T2 := T2.ext x9
    replace ib1 := ib1.ext' x9
    replace ib2 := ib2.ext' x9
    replace x0 := x0.trans x9
    refine zsd ?_
    refine zst ?_
    refine W.regD [(0, .q), (1, .q), (3, .q), (8, .q), (2, .l), (4, .l), (5, .l), (6, .l), (7, .l), (9, .q), (10, .q), (11, .q), (12, .q), (13, .q), (14, .q), (15, .q), (17, .q), (20, .q), (16, .l), (18, .l), (19, .l), (21, .q), (22, .q), (23, .q), (24, .q), (25, .q), (26, .l), (27, .l), (28, .q), (29, .q), (30, .q), (31, .q), (32, .l), (33, .l), (34, .q), (35, .q), (36, .q), (37, .q), (38, .l), (39, .l), (40, .q), (41, .q), (42, .q), (43, .q), (45, .q), (44, .l), (46, .l), (47, .l), (48, .q), (49, .q), (50, .q), (51, .q), (52, .q), (53, .l), (54, .l), (55, .l), (56, .q), (57, .q), (58, .q)] (by kernel_rfl) (by kernel_rfl) rfl ?_
    intro w10 x10 _
    replace lw := lw.ext x10
    replace T1 := T1.ext x10
    replace T2 := T2.ext x10
    replace ib1 := ib1.ext' x10
    replace ib2 := ib2.ext' x10
    replace x0 := x0.trans x10
    refine zsd ?_
    refine WD.stp rfl rfl rfl rfl (stp_call rfl (t_field (nm := nmA) T1)) ?_
    rintro _ w11 ⟨⟨a7, c7, rfl, k7⟩, x11⟩
    refine ⟨by first | assumption | exact Ext.rfl' _ | infer_instance, ?_⟩
    replace lw := lw.ext x11
    replace T1 := T1.ext x11
    replace T2 := T2.ext x11
    replace ib1 := ib1.ext' x11
    replace ib2 := ib2.ext' x11
    replace x0 := x0.trans x11
    have P7 : TvV w11 (.agg (tyc (fldT nmA t1) a7 c7).toArray) (fldT nmA t1) := ⟨_, _, rfl, k7⟩
    refine zsd ?_
    refine WD.stp rfl rfl rfl rfl (stp_call rfl (t_field (nm := nmU) T2)) ?_
    rintro _ w12 ⟨⟨a8, c8, rfl, k8⟩, x12⟩
    refine ⟨by first | assumption | exact Ext.rfl' _ | infer_instance, ?_⟩
    replace lw := lw.ext x12
    replace T1 := T1.ext x12
    replace T2 := T2.ext x12
    replace ib1 := ib1.ext' x12
    replace ib2 := ib2.ext' x12
    replace P7 := P7.ext x12
    replace x0 := x0.trans x12
    have P8 : TvV w12 (.agg (tyc (fldT nmU t2) a8 c8).toArray) (fldT nmU t2) := ⟨_, _, rfl, k8⟩
    refine zsd ?_
    refine WD.stp rfl rfl rfl rfl (stp_buildSlice rfl rfl rfl rfl rfl) ?_
    rintro _ w13 ⟨r13, rfl, n13⟩
    refine ⟨n13.ext, ?_⟩
    replace lw := lw.ext n13.ext
    replace T1 := T1.ext n13.ext
    replace T2 := T2.ext n13.ext
    replace ib1 := ib1.ext' n13.ext
    replace ib2 := ib2.ext' n13.ext
    replace P7 := P7.ext n13.ext
    replace P8 := P8.ext n13.ext
    replace x0 := x0.trans n13.ext
    have hr : Has w13 r13 (.cells (tyc (fldT nmA t1) a7 c7 ++ tyc (fldT nmU t2) a8 c8).toArray 26) := n13.has
    refine zsd ?_
    refine WD.stp rfl rfl rfl rfl (stp_call rfl (t_of2 (k := 7) (n := 0) hr rfl rfl P7 P8)) ?_
    rintro _ w14 ⟨P9, x14⟩
    refine ⟨by first | assumption | exact Ext.rfl' _ | infer_instance, ?_⟩
    replace lw := lw.ext x14
    replace T1 := T1.ext x14
    replace T2 := T2.ext x14
    replace ib1 := ib1.ext' x14
    replace ib2 := ib2.ext' x14
    replace P7 := P7.ext x14
    replace P8 := P8.ext x14
    replace x0 := x0.trans x14
    refine zsd ?_
    refine WD.stp rfl rfl rfl rfl (stp_call rfl (t_Cmp lw hV hwd P9 (valid_st2 hT hU) wst (cmp_st2 C1 C2))) ?_
    rintro _ w15 ⟨rfl, x15⟩
    refine ⟨by first | assumption | exact Ext.rfl' _ | infer_instance, ?_⟩
    replace lw := lw.ext x15
    replace T1 := T1.ext x15
    replace T2 := T2.ext x15
    replace ib1 := ib1.ext' x15
    replace ib2 := ib2.ext' x15
    replace P9 := P9.ext x15
    replace x0 := x0.trans x15
    refine zsd ?_
    cases q1 with
    | false =>
      refine zsd ?_
      refine WD.stp rfl rfl rfl rfl (stp_call rfl (c_place i3 1000 _ (by decide))) ?_
      rintro _ _ ⟨rfl, rfl⟩
      refine ⟨by first | assumption | exact Ext.rfl' _ | infer_instance, ?_⟩
      refine zsd ?_
      refine WD.stp rfl rfl rfl rfl (stp_call rfl (t_array (i3 % 1000) T1)) ?_
      rintro _ w16 ⟨P1, x16⟩
      refine ⟨by first | assumption | exact Ext.rfl' _ | infer_instance, ?_⟩
      replace lw := lw.ext x16
      replace T1 := T1.ext x16
      replace T2 := T2.ext x16
      replace ib1 := ib1.ext' x16
      replace ib2 := ib2.ext' x16
      replace x0 := x0.trans x16
      refine zsd ?_
      refine WD.stp rfl rfl rfl rfl (stp_call rfl (t_Cmp lw hV hwd P1 (valid_nd1 (.inr (.inr (.inl ⟨rfl, q3.1⟩))) hT) (by rw [wt_nd]; have := wt_elT t1; simp only [wts]; omega) (cmp_arr C1))) ?_
      rintro _ w17 ⟨rfl, x17⟩
      refine ⟨by first | assumption | exact Ext.rfl' _ | infer_instance, ?_⟩
      replace lw := lw.ext x17
      replace T1 := T1.ext x17
      replace T2 := T2.ext x17
      replace ib1 := ib1.ext' x17
      replace ib2 := ib2.ext' x17
      replace P1 := P1.ext x17
      replace x0 := x0.trans x17
      refine zsd ?_
      refine WD.stp rfl rfl rfl rfl (stp_call rfl (t_pointer T1)) ?_
      rintro _ w18 ⟨P1, x18⟩
      refine ⟨by first | assumption | exact Ext.rfl' _ | infer_instance, ?_⟩
      replace lw := lw.ext x18
      replace T1 := T1.ext x18
      replace T2 := T2.ext x18
      replace ib1 := ib1.ext' x18
      replace ib2 := ib2.ext' x18
      replace x0 := x0.trans x18
      refine zsd ?_
      refine WD.stp rfl rfl rfl rfl (stp_call rfl (t_Cmp lw hV hwd P1 (valid_nd1 (.inl rfl) hT) (by rw [wt_nd]; have := wt_elT t1; simp only [wts]; omega) (cmp_yes (.inl rfl)))) ?_
      rintro _ w19 ⟨rfl, x19⟩
      refine ⟨by first | assumption | exact Ext.rfl' _ | infer_instance, ?_⟩
      replace lw := lw.ext x19
      replace T1 := T1.ext x19
      replace T2 := T2.ext x19
      replace ib1 := ib1.ext' x19
      replace ib2 := ib2.ext' x19
      replace P1 := P1.ext x19
      replace x0 := x0.trans x19
      refine zsd ?_
      refine WD.stp rfl rfl rfl rfl (stp_call rfl (t_channel 0 T1)) ?_
      rintro _ w20 ⟨P1, x20⟩
      refine ⟨by first | assumption | exact Ext.rfl' _ | infer_instance, ?_⟩
      replace lw := lw.ext x20
      replace T1 := T1.ext x20
      replace T2 := T2.ext x20
      replace ib1 := ib1.ext' x20
      replace ib2 := ib2.ext' x20
      replace x0 := x0.trans x20
      refine zsd ?_
      refine WD.stp rfl rfl rfl rfl (stp_call rfl (t_Cmp lw hV hwd P1 (valid_nd1 (.inr (.inr (.inr ⟨rfl, by decide, by decide⟩))) hT) (by rw [wt_nd]; have := wt_elT t1; simp only [wts]; omega) (cmp_yes (.inr rfl)))) ?_
      rintro _ w21 ⟨rfl, x21⟩
      refine ⟨by first | assumption | exact Ext.rfl' _ | infer_instance, ?_⟩
      replace lw := lw.ext x21
      replace T1 := T1.ext x21
      replace T2 := T2.ext x21
      replace ib1 := ib1.ext' x21
      replace ib2 := ib2.ext' x21
      replace P1 := P1.ext x21
      replace x0 := x0.trans x21
      refine zsd ?_
      refine WD.stp rfl rfl rfl rfl (stp_call rfl (t_slice T1)) ?_
      rintro _ w22 ⟨P1, x22⟩
      refine ⟨by first | assumption | exact Ext.rfl' _ | infer_instance, ?_⟩
      replace lw := lw.ext x22
      replace T1 := T1.ext x22
      replace T2 := T2.ext x22
      replace ib1 := ib1.ext' x22
      replace ib2 := ib2.ext' x22
      replace x0 := x0.trans x22
      refine zsd ?_
      refine WD.stp rfl rfl rfl rfl (stp_call rfl (t_Cmp lw hV hwd P1 (valid_nd1 (.inr (.inl rfl)) hT) (by rw [wt_nd]; have := wt_elT t1; simp only [wts]; omega) (cmp_no (.inl rfl)))) ?_
      rintro _ w23 ⟨rfl, x23⟩
      refine ⟨by first | assumption | exact Ext.rfl' _ | infer_instance, ?_⟩
      replace lw := lw.ext x23
      replace T1 := T1.ext x23
      replace T2 := T2.ext x23
      replace ib1 := ib1.ext' x23
      replace ib2 := ib2.ext' x23
      replace P1 := P1.ext x23
      replace x0 := x0.trans x23
      refine zsd ?_
      refine WD.stp rfl rfl rfl rfl (stp_call rfl (t_basic 1 _)) ?_
      rintro _ w24 ⟨B1, x24⟩
      refine ⟨by first | assumption | exact Ext.rfl' _ | infer_instance, ?_⟩
      replace lw := lw.ext x24
      replace T1 := T1.ext x24
      replace T2 := T2.ext x24
      replace ib1 := ib1.ext' x24
      replace ib2 := ib2.ext' x24
      replace x0 := x0.trans x24
      refine zsd ?_
      refine WD.stp rfl rfl rfl rfl (stp_call rfl (t_mapping B1 T1)) ?_
      rintro _ w25 ⟨P1, x25⟩
      refine ⟨by first | assumption | exact Ext.rfl' _ | infer_instance, ?_⟩
      replace lw := lw.ext x25
      replace T1 := T1.ext x25
      replace T2 := T2.ext x25
      replace ib1 := ib1.ext' x25
      replace ib2 := ib2.ext' x25
      replace B1 := B1.ext x25
      replace x0 := x0.trans x25
      refine zsd ?_
      refine WD.stp rfl rfl rfl rfl (stp_call rfl (t_Cmp lw hV hwd P1 (valid_map (VX.int D).vt (cmp_int D) hT) (by rw [wt_nd]; have := wt_elT t1; have := (VX.int D).wt; have := wt_elT (ndT 0 1 []); simp only [wts]; omega) (cmp_no (.inr rfl)))) ?_
      rintro _ w26 ⟨rfl, x26⟩
      refine ⟨by first | assumption | exact Ext.rfl' _ | infer_instance, ?_⟩
      replace lw := lw.ext x26
      replace T1 := T1.ext x26
      replace T2 := T2.ext x26
      replace ib1 := ib1.ext' x26
      replace ib2 := ib2.ext' x26
      replace P1 := P1.ext x26
      replace x0 := x0.trans x26
      refine zsd ?_
      refine WD.stp rfl rfl rfl rfl (stp_buildSlice rfl rfl rfl rfl rfl) ?_
      rintro _ w27 ⟨r27, rfl, n27⟩
      refine ⟨n27.ext, ?_⟩
      replace lw := lw.ext n27.ext
      replace T1 := T1.ext n27.ext
      replace T2 := T2.ext n27.ext
      replace ib1 := ib1.ext' n27.ext
      replace ib2 := ib2.ext' n27.ext
      replace x0 := x0.trans n27.ext
      have hr2 : Has w27 r27 (.cells (tyc t1 a1 c1).toArray 26) := n27.has
      refine zsd ?_
      have LA : LsV w27 (.slice none 0 0) [] := ⟨none, 0, rfl, .nil⟩
      have LB : LsV w27 (.slice (some ⟨r27, 0, none⟩) 1 1) [t1] := ⟨_, _, rfl, tys_one hr2 hr2.lt T1.tys⟩
      refine WD.stp rfl rfl rfl rfl (stp_call rfl (t_function LA LB (by simp) (by simp))) ?_
      rintro _ w28 ⟨P1, x28⟩
      refine ⟨by first | assumption | exact Ext.rfl' _ | infer_instance, ?_⟩
      replace lw := lw.ext x28
      replace T1 := T1.ext x28
      replace T2 := T2.ext x28
      replace ib1 := ib1.ext' x28
      replace ib2 := ib2.ext' x28
      replace x0 := x0.trans x28
      refine zsd ?_
      refine WD.stp rfl rfl rfl rfl (stp_call rfl (t_Cmp lw hV hwd P1 (valid_fn1 hT) wf cmp_fn)) ?_
      rintro _ w29 ⟨rfl, x29⟩
      refine ⟨by first | assumption | exact Ext.rfl' _ | infer_instance, ?_⟩
      replace lw := lw.ext x29
      replace T1 := T1.ext x29
      replace T2 := T2.ext x29
      replace ib1 := ib1.ext' x29
      replace ib2 := ib2.ext' x29
      replace P1 := P1.ext x29
      replace x0 := x0.trans x29
      refine zsd ?_
      refine zst ?_
      exact fin1 (.inl rfl) rfl rfl ⟨rfl, x0⟩
    | true =>
      refine zsd ?_
      rw [show ((true && q2) == q2) = true by simp]
      refine zsd ?_
      refine WD.stp rfl rfl rfl rfl (stp_call rfl (c_place i3 1000 _ (by decide))) ?_
      rintro _ _ ⟨rfl, rfl⟩
      refine ⟨by first | assumption | exact Ext.rfl' _ | infer_instance, ?_⟩
      refine zsd ?_
      refine WD.stp rfl rfl rfl rfl (stp_call rfl (t_array (i3 % 1000) T1)) ?_
      rintro _ w116 ⟨P1, x116⟩
      refine ⟨by first | assumption | exact Ext.rfl' _ | infer_instance, ?_⟩
      replace lw := lw.ext x116
      replace T1 := T1.ext x116
      replace T2 := T2.ext x116
      replace ib1 := ib1.ext' x116
      replace ib2 := ib2.ext' x116
      replace x0 := x0.trans x116
      refine zsd ?_
      refine WD.stp rfl rfl rfl rfl (stp_call rfl (t_Cmp lw hV hwd P1 (valid_nd1 (.inr (.inr (.inl ⟨rfl, q3.1⟩))) hT) (by rw [wt_nd]; have := wt_elT t1; simp only [wts]; omega) (cmp_arr C1))) ?_
      rintro _ w117 ⟨rfl, x117⟩
      refine ⟨by first | assumption | exact Ext.rfl' _ | infer_instance, ?_⟩
      replace lw := lw.ext x117
      replace T1 := T1.ext x117
      replace T2 := T2.ext x117
      replace ib1 := ib1.ext' x117
      replace ib2 := ib2.ext' x117
      replace P1 := P1.ext x117
      replace x0 := x0.trans x117
      refine zsd ?_
      refine WD.stp rfl rfl rfl rfl (stp_call rfl (t_pointer T1)) ?_
      rintro _ w118 ⟨P1, x118⟩
      refine ⟨by first | assumption | exact Ext.rfl' _ | infer_instance, ?_⟩
      replace lw := lw.ext x118
      replace T1 := T1.ext x118
      replace T2 := T2.ext x118
      replace ib1 := ib1.ext' x118
      replace ib2 := ib2.ext' x118
      replace x0 := x0.trans x118
      refine zsd ?_
      refine WD.stp rfl rfl rfl rfl (stp_call rfl (t_Cmp lw hV hwd P1 (valid_nd1 (.inl rfl) hT) (by rw [wt_nd]; have := wt_elT t1; simp only [wts]; omega) (cmp_yes (.inl rfl)))) ?_
      rintro _ w119 ⟨rfl, x119⟩
      refine ⟨by first | assumption | exact Ext.rfl' _ | infer_instance, ?_⟩
      replace lw := lw.ext x119
      replace T1 := T1.ext x119
      replace T2 := T2.ext x119
      replace ib1 := ib1.ext' x119
      replace ib2 := ib2.ext' x119
      replace P1 := P1.ext x119
      replace x0 := x0.trans x119
      refine zsd ?_
      refine WD.stp rfl rfl rfl rfl (stp_call rfl (t_channel 0 T1)) ?_
      rintro _ w120 ⟨P1, x120⟩
      refine ⟨by first | assumption | exact Ext.rfl' _ | infer_instance, ?_⟩
      replace lw := lw.ext x120
      replace T1 := T1.ext x120
      replace T2 := T2.ext x120
      replace ib1 := ib1.ext' x120
      replace ib2 := ib2.ext' x120
      replace x0 := x0.trans x120
      refine zsd ?_
      refine WD.stp rfl rfl rfl rfl (stp_call rfl (t_Cmp lw hV hwd P1 (valid_nd1 (.inr (.inr (.inr ⟨rfl, by decide, by decide⟩))) hT) (by rw [wt_nd]; have := wt_elT t1; simp only [wts]; omega) (cmp_yes (.inr rfl)))) ?_
      rintro _ w121 ⟨rfl, x121⟩
      refine ⟨by first | assumption | exact Ext.rfl' _ | infer_instance, ?_⟩
      replace lw := lw.ext x121
      replace T1 := T1.ext x121
      replace T2 := T2.ext x121
      replace ib1 := ib1.ext' x121
      replace ib2 := ib2.ext' x121
      replace P1 := P1.ext x121
      replace x0 := x0.trans x121
      refine zsd ?_
      refine WD.stp rfl rfl rfl rfl (stp_call rfl (t_slice T1)) ?_
      rintro _ w122 ⟨P1, x122⟩
      refine ⟨by first | assumption | exact Ext.rfl' _ | infer_instance, ?_⟩
      replace lw := lw.ext x122
      replace T1 := T1.ext x122
      replace T2 := T2.ext x122
      replace ib1 := ib1.ext' x122
      replace ib2 := ib2.ext' x122
      replace x0 := x0.trans x122
      refine zsd ?_
      refine WD.stp rfl rfl rfl rfl (stp_call rfl (t_Cmp lw hV hwd P1 (valid_nd1 (.inr (.inl rfl)) hT) (by rw [wt_nd]; have := wt_elT t1; simp only [wts]; omega) (cmp_no (.inl rfl)))) ?_
      rintro _ w123 ⟨rfl, x123⟩
      refine ⟨by first | assumption | exact Ext.rfl' _ | infer_instance, ?_⟩
      replace lw := lw.ext x123
      replace T1 := T1.ext x123
      replace T2 := T2.ext x123
      replace ib1 := ib1.ext' x123
      replace ib2 := ib2.ext' x123
      replace P1 := P1.ext x123
      replace x0 := x0.trans x123
      refine zsd ?_
      refine WD.stp rfl rfl rfl rfl (stp_call rfl (t_basic 1 _)) ?_
      rintro _ w124 ⟨B1, x124⟩
      refine ⟨by first | assumption | exact Ext.rfl' _ | infer_instance, ?_⟩
      replace lw := lw.ext x124
      replace T1 := T1.ext x124
      replace T2 := T2.ext x124
      replace ib1 := ib1.ext' x124
      replace ib2 := ib2.ext' x124
      replace x0 := x0.trans x124
      refine zsd ?_
      refine WD.stp rfl rfl rfl rfl (stp_call rfl (t_mapping B1 T1)) ?_
      rintro _ w125 ⟨P1, x125⟩
      refine ⟨by first | assumption | exact Ext.rfl' _ | infer_instance, ?_⟩
      replace lw := lw.ext x125
      replace T1 := T1.ext x125
      replace T2 := T2.ext x125
      replace ib1 := ib1.ext' x125
      replace ib2 := ib2.ext' x125
      replace B1 := B1.ext x125
      replace x0 := x0.trans x125
      refine zsd ?_
      refine WD.stp rfl rfl rfl rfl (stp_call rfl (t_Cmp lw hV hwd P1 (valid_map (VX.int D).vt (cmp_int D) hT) (by rw [wt_nd]; have := wt_elT t1; have := (VX.int D).wt; have := wt_elT (ndT 0 1 []); simp only [wts]; omega) (cmp_no (.inr rfl)))) ?_
      rintro _ w126 ⟨rfl, x126⟩
      refine ⟨by first | assumption | exact Ext.rfl' _ | infer_instance, ?_⟩
      replace lw := lw.ext x126
      replace T1 := T1.ext x126
      replace T2 := T2.ext x126
      replace ib1 := ib1.ext' x126
      replace ib2 := ib2.ext' x126
      replace P1 := P1.ext x126
      replace x0 := x0.trans x126
      refine zsd ?_
      refine WD.stp rfl rfl rfl rfl (stp_buildSlice rfl rfl rfl rfl rfl) ?_
      rintro _ w127 ⟨r127, rfl, n127⟩
      refine ⟨n127.ext, ?_⟩
      replace lw := lw.ext n127.ext
      replace T1 := T1.ext n127.ext
      replace T2 := T2.ext n127.ext
      replace ib1 := ib1.ext' n127.ext
      replace ib2 := ib2.ext' n127.ext
      replace x0 := x0.trans n127.ext
      have hr2 : Has w127 r127 (.cells (tyc t1 a1 c1).toArray 26) := n127.has
      refine zsd ?_
      have LA : LsV w127 (.slice none 0 0) [] := ⟨none, 0, rfl, .nil⟩
      have LB : LsV w127 (.slice (some ⟨r127, 0, none⟩) 1 1) [t1] := ⟨_, _, rfl, tys_one hr2 hr2.lt T1.tys⟩
      refine WD.stp rfl rfl rfl rfl (stp_call rfl (t_function LA LB (by simp) (by simp))) ?_
      rintro _ w128 ⟨P1, x128⟩
      refine ⟨by first | assumption | exact Ext.rfl' _ | infer_instance, ?_⟩
      replace lw := lw.ext x128
      replace T1 := T1.ext x128
      replace T2 := T2.ext x128
      replace ib1 := ib1.ext' x128
      replace ib2 := ib2.ext' x128
      replace x0 := x0.trans x128
      refine zsd ?_
      refine WD.stp rfl rfl rfl rfl (stp_call rfl (t_Cmp lw hV hwd P1 (valid_fn1 hT) wf cmp_fn)) ?_
      rintro _ w129 ⟨rfl, x129⟩
      refine ⟨by first | assumption | exact Ext.rfl' _ | infer_instance, ?_⟩
      replace lw := lw.ext x129
      replace T1 := T1.ext x129
      replace T2 := T2.ext x129
      replace ib1 := ib1.ext' x129
      replace ib2 := ib2.ext' x129
      replace P1 := P1.ext x129
      replace x0 := x0.trans x129
      refine zsd ?_
      refine zst ?_
      exact fin1 (.inl rfl) rfl rfl ⟨rfl, x0⟩
end Go.Proofs.YtlemfkbhcleopaaGreatDoor.Law

/- The walk kit, part h: maps whose keys are interface values that hold pointers. -/
import Derived.Test.YtnmodbmaokilaaaGreatDoorKg
namespace Go.Kd
variable {P : Program} {e : Env} {w : World} {d : Option Tmp} {ty t t2 : TypeId} {pos : String} {aft : Array Edge} {g : Option (Nat × Bool)} {x y z : Operand}

theorem Zv.run {v : Value} [h : Zv P t v] : (zeroValue t).run P w = .ok v w := by
  obtain ⟨i, h1, h2⟩ := h.at_
  simp only [zeroValue, typeInfo, program, bind, Sem.bind, Sem.run, h1, pure, h2]

theorem run_getMap {r : Nat} {es : Array MapEntry} {c : Nat} (h : w.heap[r]? = some (.map es c)) : (getObj r).run P w = .ok (.map es c) w := by
  simp [getObj, Sem.run, h]
theorem run_setMap {r : Nat} {es : Array MapEntry} {c : Nat} (o : Obj) (h : w.heap[r]? = some (.map es c)) : (setObj r o).run P w = .ok () { w with heap := w.heap.setIfInBounds r o } := by
  simp [setObj, Sem.run, h]

theorem run_checkKey_ifp {key T : TypeId} {ms : Array (String × TypeId)} [h : Und P key (.interface ms)] [hp : PtrT P T] [hc : CmpT P T] {emp : Bool} {a : Option Addr} :
    (Instr.checkKey emp 10000 key (.iface T (.pointer a))).run P w = .ok () w := by
  obtain ⟨i, h1, h2⟩ := hc.at_
  obtain ⟨el, j, h3, _, _⟩ := hp.at_
  have hk : ∀ k : Nat, (Instr.checkKey emp (k + 1 + 1) key (.iface T (.pointer a))).run P w = .ok () w := fun k => by
    rw [Instr.checkKey]
    simp only [Sem.run_bind, run_underlying h.at_, Result.andThen_ok]
    rw [Instr.checkKey]
    simp [typeInfo, h1, h2, Sem.run_bind, run_underlying h3]
  exact hk 9998

/-- other keys: pointers, none of them this one -/
def NoKey (w : World) (T : TypeId) (a : Addr) (es : List MapEntry) : Prop :=
  ∀ m ∈ es, ∃ T' a', m.key = .iface T' (.pointer (some a')) ∧ Pl w a'.block ∧ (T' = T → a' ≠ a)

theorem NoKey.ext {w w' : World} (hx : Ext w w') {T : TypeId} {a : Addr} {es : List MapEntry} (h : NoKey w T a es) : NoKey w' T a es := fun m hm => by
  obtain ⟨T', a', h1, h2, h3⟩ := h m hm
  exact ⟨T', a', h1, h2.ext' hx, h3⟩

theorem run_findKey_no {key T : TypeId} {ms : Array (String × TypeId)} [h : Und P key (.interface ms)] [hp : PtrT P T] [hc : CmpT P T] {a : Addr} (ha : Pl w a.block) {es : List MapEntry} (hn : NoKey w T a es) :
    (Instr.findKey key (.iface T (.pointer (some a))) es).run P w = .ok none w := by
  have hask : ∀ (es : List MapEntry) (i : Nat), NoKey w T a es → (Instr.findAsking key (.iface T (.pointer (some a))) es i).run P w = .ok none w := by
    intro es
    induction es with
    | nil => intro i _; rfl
    | cons m r ih =>
      intro i hn
      obtain ⟨T', a', h1, h2, h3⟩ := hn m (List.mem_cons_self ..)
      have hr := ih (i + 1) (fun m' hm' => hn m' (List.mem_cons_of_mem _ hm'))
      have heq : (Op.equal key (.iface T (.pointer (some a))) m.key).run P w = .ok false w := by
        rw [h1]
        by_cases hT : T' = T
        · subst hT
          rw [run_equal_ifp ha h2, decide_eq_false (fun e => h3 rfl e.symm)]
        · have hk : ∀ k : Nat, (Op.equalIn (k + 1) key (.iface T (.pointer (some a))) (.iface T' (.pointer (some a')))).run P w = .ok false w := fun k => by
            rw [Op.equalIn]
            simp [Sem.run_bind, run_underlying h.at_, Ne.symm hT]
          exact hk 9999
      rw [Instr.findAsking]
      simp only [Sem.run_bind, heq, Result.andThen_ok]
      exact hr
  unfold Instr.findKey
  simp only [Sem.run_bind, run_underlying h.at_, Result.andThen_ok]
  cases es with
  | nil => rfl
  | cons m r =>
    obtain ⟨T', a', h1, h2, h3⟩ := hn m (List.mem_cons_self ..)
    have : Instr.findNow (.interface ms) (.iface T (.pointer (some a))) (m :: r) 0 = none := by
      simp [Instr.findNow, Instr.sameNow]
    rw [this]
    exact hask _ _ hn

theorem stp_lookup_nil {key el T : TypeId} {a : Addr} {zv : Value} [hm : Und P t (.map key el)] {ms : Array (String × TypeId)} [h : Und P key (.interface ms)] [hp : PtrT P T] [hc : CmpT P T] [hz : Zv P el zv]
    (hx : ev e x = some (.map none)) (hy : ev e y = some (.iface T (.pointer (some a)))) :
    Stp P e ⟨d, .lookup t x y false, ty, pos, aft, g⟩ w (fun v w' => v = zv ∧ w = w') := ⟨fun ρ hρ => by
  have h0 : (Instr.findKey key (.iface T (.pointer (some a))) []).run P w = .ok none w := by
    unfold Instr.findKey
    simp only [Sem.run_bind, run_underlying h.at_, Result.andThen_ok]; rfl
  simp [execOp, hρ x _ hx, hρ y _ hy, Instr.lookup, Sem.run_bind, run_underlying hm.at_, run_checkKey_ifp (P := P) (w := w) (key := key) (T := T), h0, hz.run]⟩

theorem stp_lookup_no {key el T : TypeId} {a : Addr} {zv : Value} {r : Nat} {es : Array MapEntry} {c : Nat} [hm : Und P t (.map key el)] {ms : Array (String × TypeId)} [h : Und P key (.interface ms)] [hp : PtrT P T] [hc : CmpT P T] [hz : Zv P el zv]
    (hx : ev e x = some (.map (some r))) (hy : ev e y = some (.iface T (.pointer (some a)))) (hr : Has w r (.map es c)) (ha : Pl w a.block) (hn : NoKey w T a es.toList) :
    Stp P e ⟨d, .lookup t x y false, ty, pos, aft, g⟩ w (fun v w' => v = zv ∧ w = w') := ⟨fun ρ hρ => by
  have h0 := run_findKey_no (P := P) (key := key) ha hn
  simp [execOp, hρ x _ hx, hρ y _ hy, Instr.lookup, Sem.run_bind, run_underlying hm.at_, run_checkKey_ifp (P := P) (w := w) (key := key) (T := T), h0, hz.run, run_getMap hr.at_]⟩

theorem stp_makeMap : Stp P e ⟨d, .makeMap t none, ty, pos, aft, g⟩ w (fun v w' => ∃ b, v = .map (some b) ∧ New w b (.map #[] 0) w') := ⟨fun ρ _ => by
  simp only [execOp, Instr.makeMap, newObj, bind, Sem.bind, Sem.run, pure]
  exact ⟨_, rfl, New.alloc w _⟩⟩

theorem Upd.setMap {w : World} {b : Nat} {es es' : Array MapEntry} {c c' : Nat} (h : Has w b (.map es c)) : Upd w b (.map es' c') { w with heap := w.heap.setIfInBounds b (.map es' c') } := by
  have hl := h.lt
  refine ⟨⟨by simp [hl]⟩, fun k hk => by simp [Ne.symm hk], by simp, rfl, rfl, rfl⟩

theorem stp_mapNew {key el T : TypeId} {a : Addr} {v : Value} {r : Nat} {es : Array MapEntry} {c : Nat} [hm : Und P t (.map key el)] {ms : Array (String × TypeId)} [h : Und P key (.interface ms)] [hp : PtrT P T] [hc : CmpT P T]
    (hx : ev e x = some (.map (some r))) (hy : ev e y = some (.iface T (.pointer (some a)))) (hv : ev e z = some v) (hr : Has w r (.map es c)) (ha : Pl w a.block) (hn : NoKey w T a es.toList) :
    Stp P e ⟨d, .mapUpdate t x y z, ty, pos, aft, g⟩ w (fun _ w' => Upd w r (.map (es.push ⟨.iface T (.pointer (some a)), v, c⟩) (c + 1)) w') := ⟨fun ρ hρ => by
  have h0 := run_findKey_no (P := P) (key := key) ha hn
  have hu := Upd.setMap (es' := es.push ⟨.iface T (.pointer (some a)), v, c⟩) (c' := c + 1) hr
  simp [execOp, hρ x _ hx, hρ y _ hy, hρ z _ hv, Instr.mapUpdate, Sem.run_bind, run_underlying hm.at_, run_checkKey_ifp (P := P) (w := w) (key := key) (T := T), h0, run_getMap hr.at_, run_setMap _ hr.at_]
  exact hu⟩
end Go.Kd

/- The walks and the plain laws, part 3. -/
import Derived.Test.YtpiegpegjbmlkaaGreatDoorZ2
import Derived.Conc.MuLone
import Derived.Laws.LoneSync
import Derived.Test.YtpiegpegjbmlkaaGreatDoorZ1
namespace Go.Proofs.YtpiegpegjbmlkaaGreatDoor
open Go Go.Kd
set_option maxRecDepth 100000

/-- while types are made only the builder and its list turn -/
theorem mc0 {K : Cfg} {b t : Nat} {cs : Array Value} {i : Nat} (h1 : t ≠ tBU) (h2 : t ≠ tPI) : mc K 0 b t cs i = false := by
  unfold mc
  split
  · simp
  split
  · simp
  split
  · simp
  split
  · simp
  split
  · simp
  · simpa using h2
theorem Has.sta0 {K : Cfg} {w w' : World} {b t : Nat} {cs : Array Value} {fz : Nat × Nat} (x : Sta K 0 w w') (h1 : t ≠ tBU) (h2 : t ≠ tPI) (h : Has w b (.cells cs t fz)) : Has w' b (.cells cs t fz) := by
  obtain ⟨cs', k1, k2⟩ := x.has h2 h
  have : cs' = cs := by
    apply Array.ext_getElem?
    intro i
    exact k2.cell i (mc0 h1 h2)
  rw [← this]; exact k1
theorem Has.staB {K : Cfg} {l : Nat} {w w' : World} {b : Nat} {c0 c1 c2 c3 c4 : Value} (x : Sta K l w w') (h : Has w b (.cells #[c0, c1, c2, c3, c4] tBU)) : ∃ v, Has w' b (.cells #[c0, c1, c2, c3, v] tBU) := by
  obtain ⟨cs', k1, k2⟩ := x.has (by decide) h
  have hs : cs'.size = 5 := k2.size
  have hc : ∀ i, i ≠ 4 → cs'[i]? = (#[c0, c1, c2, c3, c4] : Array Value)[i]? := fun i hi => k2.cell i (by
    unfold mc
    simp only [show ¬ tBU = tTY from by decide, show ¬ tBU = tIF from by decide, show ¬ tBU = tSG from by decide, show ¬ tBU = tNM from by decide, show ¬ tBU = tTN from by decide, if_false, if_true]
    simp [hi])
  refine ⟨cs'[4], ?_⟩
  have : cs' = #[c0, c1, c2, c3, cs'[4]] := by
    apply Array.ext_getElem?
    intro i
    by_cases hi : i = 4
    · subst hi; simp [hs]
    · rw [hc i hi]
      match i, hi with
      | 0, _ | 1, _ | 2, _ | 3, _ => rfl
      | i + 5, _ => rw [Array.getElem?_eq_none (by simp), Array.getElem?_eq_none (by simp)]
  rw [← this]; exact k1

def isIf (t : Ty) : Prop := t.kind = 9 ∨ (t.kind = 0 ∧ t.n = 21)
def IfT (w : World) (b : Nat) (ts : Value) : Prop := ∃ ma mn mc ea en ec, Has w b (.cells (ifc ma mn mc ea en ec ts) tIF)
theorem IfT.sta0 {K : Cfg} {w w' : World} (x : Sta K 0 w w') {b : Nat} {ts : Value} (h : IfT w b ts) : IfT w' b ts := by
  obtain ⟨ma, mn, mc, ea, en, ec, h⟩ := h
  exact ⟨ma, mn, mc, ea, en, ec, Has.sta0 x (by decide) (by decide) h⟩
abbrev IfN (w : World) (b : Nat) : Prop := IfT w b (.pointer none)
def TsE (w : World) (b : Nat) : Prop := ∃ tb v, IfT w b (pt tb) ∧ Has w tb (.cells #[.bool false, .slice none 0 0, v, .bool false] tTS) ∧ AllT w v
def Fresh (w : World) (b : Nat) (t : Ty) : Prop := IfN w b ∨ (TsE w b ∧ (t.kind = 0 ∨ t.elems = []))
theorem Fresh.sta0 {K : Cfg} {w w' : World} (x : Sta K 0 w w') {b : Nat} {t : Ty} (h : Fresh w b t) : Fresh w' b t := by
  rcases h with h | ⟨⟨tb, v, h1, h2, h3⟩, h4⟩
  · exact .inl (h.sta0 x)
  · exact .inr ⟨⟨tb, v, h1.sta0 x, Has.sta x h2, h3.sta x⟩, h4⟩

abbrev Big : Nat := 268435456
/-- a type of the right form, and legal -/
def WfI (D : List De) (u : Ty) : Prop := (∃ j v, j ≤ D.length ∧ Shaped D j v u) ∧ wt u ≤ Big ∧ Legal D u
/-- an interface's block is known: it was built from a type -/
def Kno (K : Cfg) (s : Gs) (w : World) (b : Nat) : Prop := ∃ u, s.g b = some u ∧ isIf u ∧ WfI K.D u ∧ RT K s w s.sl (.iface tPI (pt b)) u
theorem Kno.map {K : Cfg} {s s' : Gs} {w w' : World} {b : Nat} (h : Kno K s w b) (f : ∀ v t, RT K s w s.sl v t → RT K s' w' s'.sl v t) (g : ∀ b u, s.g b = some u → s'.g b = some u) : Kno K s' w' b := by
  obtain ⟨u, h1, h2, h3, h4⟩ := h
  exact ⟨u, g b u h1, h2, h3, f _ _ h4⟩
abbrev tPK : Nat := 162
def pth (n : Int) : ByteArray := if n = 0 then ⟨#[112]⟩ else ⟨#[113]⟩
def PkgOK (s : Gs) (w : World) : Prop := ∀ n, n = 0 ∨ n = 1 → ∃ c x, s.pk n = pt c ∧ Has w c (.cells #[.string (pth n), .string x] tPK)
def IsI (v : Value) : Prop := ∃ T b, v = .iface T (pt b)
structure BI (K : Cfg) (s : Gs) (w : World) (bb : Nat) (made : List Nat) : Prop where
  N : K.N ≤ bb
  nbN : K.N ≤ K.nb
  nbL : K.nb < w.heap.size
  pkg : PkgOK s w
  er : IsI s.er
  nm : ∀ i u, s.nm i = some u → IsI u
  gl : ∀ b u, s.g b = some u → b < w.heap.size
  sll : ∀ d, s.sl d → d < w.heap.size
  kn : ∀ b, b ∈ made → Kno K s w b
  ex : ∃ na nl nc v, Has w bb (.cells #[s.pk 0, s.pk 1, .slice na nl nc, s.er, v] tBU) ∧ Own w K.N tPI 1 v (made.map fun b => [pt b]) ∧
    ∀ i u, s.nm i = some u → ∃ cs, na = some ⟨K.nb, 0, none⟩ ∧ i < nl ∧ Has w K.nb (.cells cs tTY) ∧ cs[i]? = some u
/-- what the builder reads lies as it lay -/
theorem BI.keep {K : Cfg} {s : Gs} {w w' : World} {bb : Nat} {made : List Nat} (h : BI K s w bb made) (hz : w.heap.size ≤ w'.heap.size)
    (hs : ∀ d cs t, w.heap[d]? = some (.cells cs t (0, 0)) → t = tBU ∨ t = tTY ∧ d = K.nb ∨ t = tPK ∨ t = tPI → w'.heap[d]? = w.heap[d]?) (hk : ∀ v t, RT K s w s.sl v t → RT K s w' s.sl v t) : BI K s w' bb made := by
  obtain ⟨na, nl, nc, v, h1, h2, h3⟩ := h.ex
  refine ⟨h.N, h.nbN, Nat.lt_of_lt_of_le h.nbL hz, fun n hn => ?_, h.er, h.nm, fun b u hb => Nat.lt_of_lt_of_le (h.gl b u hb) hz, fun d hd => Nat.lt_of_lt_of_le (h.sll d hd) hz, fun b hb => (h.kn b hb).map hk (fun _ _ h => h), na, nl, nc, v, ⟨(hs _ _ _ h1.at_ (.inl rfl)).trans h1.at_⟩, h2.kept fun k hk => ?_, fun i u hu => ?_⟩
  · obtain ⟨c, x, k1, k2⟩ := h.pkg n hn
    exact ⟨c, x, k1, ⟨(hs _ _ _ k2.at_ (.inr (.inr (.inl rfl)))).trans k2.at_⟩⟩
  · rcases h2.row.2 with ⟨e, _⟩ | ⟨g, cap, cur, e, _, e3, _⟩
    · rw [e] at hk; cases hk
    · rw [e] at hk
      cases hk
      exact hs _ _ _ e3 (.inr (.inr (.inr rfl)))
  · obtain ⟨cs, k1, k2, k3, k4⟩ := h3 i u hu
    exact ⟨cs, k1, k2, ⟨(hs _ _ _ k3.at_ (.inr (.inl ⟨rfl, rfl⟩))).trans k3.at_⟩, k4⟩
theorem BI.ext {K : Cfg} {s : Gs} {w w' : World} {bb : Nat} {made : List Nat} (x : Ext w w') (h : BI K s w bb made) : BI K s w' bb made :=
  h.keep x.size (fun d _ _ hd _ => x.below.block d (Array.getElem?_eq_some_iff.1 hd).1) fun _ _ hr => hr.sta (l := 0) (.of_ext x) (by omega)

structure Gs.gle (s s' : Gs) : Prop where
  nm : s'.nm = s.nm
  er : s'.er = s.er
  pk : s'.pk = s.pk
  g : ∀ b t, s.g b = some t → s'.g b = some t
  sl : ∀ d, s.sl d → s'.sl d
theorem Gs.gle.le {s s' : Gs} (h : s.gle s') : s.le s' := ⟨fun i v hi => by rw [h.nm]; exact hi, h.g, h.er, h.pk⟩
theorem Gs.gle.rfl' (s : Gs) : s.gle s := ⟨rfl, rfl, rfl, fun _ _ h => h, fun _ h => h⟩
theorem Gs.gle.trans {a b c : Gs} (h : a.gle b) (k : b.gle c) : a.gle c := ⟨k.nm.trans h.nm, k.er.trans h.er, k.pk.trans h.pk, fun d t x => k.g d t (h.g d t x), fun d x => k.sl d (h.sl d x)⟩
/-- blocks that nobody appends to any more -/
def Gs.clo (s : Gs) (lo hi : Nat) : Gs := { s with sl := fun d => s.sl d ∨ (lo ≤ d ∧ d < hi) }
theorem Gs.gle_seal (s : Gs) (lo hi : Nat) : s.gle (s.clo lo hi) := ⟨rfl, rfl, rfl, fun _ _ h => h, fun _ h => .inl h⟩
theorem Gs.gle_set {s : Gs} {b : Nat} {t : Ty} (h : s.g b = none) : s.gle (s.set b t) := ⟨rfl, rfl, rfl, fun c u hc => by
  unfold Gs.set
  by_cases hcb : c = b
  · subst hcb; rw [h] at hc; cases hc
  · simp [hcb, hc], fun _ h => h⟩
theorem Gs.set_same (s : Gs) (b : Nat) (t : Ty) : (s.set b t).g b = some t := by simp [Gs.set]
theorem BI.fresh {K : Cfg} {s : Gs} {w : World} {bb : Nat} {made : List Nat} (h : BI K s w bb made) {b : Nat} (hb : w.heap.size ≤ b) : s.g b = none := by
  cases hg : s.g b with
  | none => rfl
  | some u => have := h.gl b u hg; omega
theorem BI.clo {K : Cfg} {s : Gs} {w : World} {bb : Nat} {made : List Nat} (h : BI K s w bb made) (lo : Nat) {hi : Nat} (hh : hi ≤ w.heap.size) : BI K (s.clo lo hi) w bb made :=
  ⟨h.N, h.nbN, h.nbL, h.pkg, h.er, h.nm, h.gl, fun d hd => hd.elim (h.sll d) fun h => by omega, fun b hb => (h.kn b hb).map (fun _ _ hr => (hr.le (Gs.gle_seal s lo hi).le).mono fun d _ hd => .inl hd) (fun _ _ h => h), h.ex⟩
theorem BI.set {K : Cfg} {s : Gs} {w : World} {bb : Nat} {made : List Nat} (h : BI K s w bb made) {b : Nat} {t : Ty} (hn : s.g b = none) (hb : b < w.heap.size) : BI K (s.set b t) w bb made :=
  ⟨h.N, h.nbN, h.nbL, h.pkg, h.er, h.nm, fun c u hc => by
    unfold Gs.set at hc
    by_cases hcb : c = b
    · omega
    · simp only [hcb, if_false] at hc; exact h.gl c u hc, h.sll, fun c hc => (h.kn c hc).map (fun _ _ hr => hr.le (Gs.gle_set hn).le) (Gs.gle_set hn).g, h.ex⟩

/-- what is new among what is known of the blocks -/
def GN (s s' : Gs) (w w' : World) (new : List Nat) : Prop := ∀ b u, s'.g b = some u → s.g b = some u ∨ (w.heap.size ≤ b ∧ b < w'.heap.size ∧ (isIf u → b ∈ new ∧ Fresh w' b u))
theorem GN.rfl' (s : Gs) (w w' : World) : GN s s w w' [] := fun _ _ h => .inl h
theorem GN.trans {K : Cfg} {s1 s2 s3 : Gs} {w1 w2 w3 : World} {n1 n2 : List Nat} (h : GN s1 s2 w1 w2 n1) (k : GN s2 s3 w2 w3 n2) (x1 : w1.heap.size ≤ w2.heap.size) (x : Sta K 0 w2 w3) : GN s1 s3 w1 w3 (n1 ++ n2) := fun b u hb => by
  rcases k b u hb with h2 | ⟨h2, h3, h4⟩
  · rcases h b u h2 with h5 | ⟨h5, h6, h7⟩
    · exact .inl h5
    · exact .inr ⟨h5, Nat.lt_of_lt_of_le h6 x.size, fun hi => ⟨List.mem_append_left _ (h7 hi).1, (h7 hi).2.sta0 x⟩⟩
  · exact .inr ⟨by omega, h3, fun hi => ⟨List.mem_append_right _ (h4 hi).1, (h4 hi).2⟩⟩
theorem GN.ext {s1 s2 : Gs} {w0 w1 w2 w3 : World} {n : List Nat} (h : GN s1 s2 w1 w2 n) (x : Ext w0 w1) (y : Sta ⟨0, 0, []⟩ 0 w2 w3) : GN s1 s2 w0 w3 n := fun b u hb => by
  rcases h b u hb with h5 | ⟨h5, h6, h7⟩
  · exact .inl h5
  · exact .inr ⟨Nat.le_trans x.size h5, Nat.lt_of_lt_of_le h6 y.size, fun hi => ⟨(h7 hi).1, (h7 hi).2.sta0 y⟩⟩
theorem GN.set {s s' : Gs} {w w' : World} {n : List Nat} (h : GN s s' w w' n) {b : Nat} {t : Ty} (hb : w.heap.size ≤ b) (hb' : b < w'.heap.size) (ht : ¬ isIf t) : GN s (s'.set b t) w w' n := fun c u hc => by
  unfold Gs.set at hc
  by_cases hcb : c = b
  · subst hcb
    simp only [if_true, Option.some.injEq] at hc
    subst hc
    exact .inr ⟨hb, hb', fun hi => absurd hi ht⟩
  · simp only [hcb, if_false] at hc
    exact h c u hc

/-- what is there when a type is to be made -/
structure Ctx (D : List De) (K : Cfg) (i : Nat) (s : Gs) (w : World) (bb : Nat) (made : List Nat) : Prop where
  bi : BI K s w bb made
  nms : ∀ (n : Nat) e, D[n]? = some e → (e.al = false ∨ n < i) → ∃ u, s.nm n = some u
  prp : Prp w
  gN : gP < K.N
  dk : K.D = D
  il : i ≤ D.length
theorem Ctx.ext {D : List De} {K : Cfg} {i : Nat} {s : Gs} {w w' : World} {bb : Nat} {made : List Nat} (x : Ext w w') (h : Ctx D K i s w bb made) : Ctx D K i s w' bb made := ⟨h.bi.ext x, h.nms, h.prp.ext x, h.gN, h.dk, h.il⟩
/-- what has been made; n: how many interfaces at most -/
structure Made (K : Cfg) (s : Gs) (w : World) (bb : Nat) (made : List Nat) (n : Nat) (s' : Gs) (new : List Nat) (w' : World) : Prop where
  gle : s.gle s'
  sta : Sta K 0 w w'
  bi : BI K s' w' bb (made ++ new)
  len : new.length ≤ n
  gn : GN s s' w w' new
  sn : ∀ d, s'.sl d → s.sl d ∨ (w.heap.size ≤ d ∧ d < w'.heap.size)
theorem Made.rfl' {K : Cfg} {s : Gs} {w w' : World} {bb : Nat} {made : List Nat} (h : BI K s w bb made) (x : Ext w w') : Made K s w bb made 0 s [] w' :=
  ⟨.rfl' s, .of_ext x, by rw [List.append_nil]; exact h.ext x, Nat.le_refl _, GN.rfl' s w w', fun _ h => .inl h⟩
theorem Made.trans {K : Cfg} {s1 s2 s3 : Gs} {w1 w2 w3 : World} {bb : Nat} {made n1 n2 : List Nat} {m1 m2 : Nat} (h : Made K s1 w1 bb made m1 s2 n1 w2) (k : Made K s2 w2 bb (made ++ n1) m2 s3 n2 w3) : Made K s1 w1 bb made (m1 + m2) s3 (n1 ++ n2) w3 :=
  ⟨h.gle.trans k.gle, h.sta.trans k.sta, by rw [← List.append_assoc]; exact k.bi, by rw [List.length_append]; have := h.len; have := k.len; omega, h.gn.trans k.gn h.sta.size k.sta, fun d hd => by
    have h1 := h.sta.size
    have h2 := k.sta.size
    rcases k.sn d hd with h3 | h3
    · exact (h.sn d h3).imp id fun h4 => by omega
    · exact .inr (by omega)⟩
theorem Made.le {K : Cfg} {s1 s2 : Gs} {w1 w2 : World} {bb : Nat} {made n1 : List Nat} {m1 m2 : Nat} (h : Made K s1 w1 bb made m1 s2 n1 w2) (hm : m1 ≤ m2) : Made K s1 w1 bb made m2 s2 n1 w2 := ⟨h.gle, h.sta, h.bi, Nat.le_trans h.len hm, h.gn, h.sn⟩
theorem Made.before {K : Cfg} {s1 s2 : Gs} {w0 w1 w2 : World} {bb : Nat} {made n1 : List Nat} {m : Nat} (h : Made K s1 w1 bb made m s2 n1 w2) (x : Ext w0 w1) : Made K s1 w0 bb made m s2 n1 w2 :=
  ⟨h.gle, (Sta.of_ext x).trans h.sta, h.bi, h.len, h.gn.ext x (.rfl' ..), fun d hd => (h.sn d hd).imp id fun h4 => ⟨Nat.le_trans x.size h4.1, h4.2⟩⟩
theorem Made.ext {K : Cfg} {s1 s2 : Gs} {w1 w2 w3 : World} {bb : Nat} {made n1 : List Nat} {m : Nat} (h : Made K s1 w1 bb made m s2 n1 w2) (x : Ext w2 w3) : Made K s1 w1 bb made m s2 n1 w3 :=
  ⟨h.gle, h.sta.ext x, h.bi.ext x, h.len, h.gn.ext (Ext.rfl' _) (.of_ext x), fun d hd => (h.sn d hd).imp id fun h4 => ⟨h4.1, Nat.lt_of_lt_of_le h4.2 x.size⟩⟩
/-- one more block, of no interface -/
theorem Made.set {K : Cfg} {s1 s2 : Gs} {w1 w2 : World} {bb : Nat} {made n1 : List Nat} {m : Nat} (h : Made K s1 w1 bb made m s2 n1 w2) {b : Nat} {t : Ty} (hb : w1.heap.size ≤ b) (hn : s2.g b = none) (hb' : b < w2.heap.size) (ht : ¬ isIf t) :
    Made K s1 w1 bb made m (s2.set b t) n1 w2 := ⟨h.gle.trans (Gs.gle_set hn), h.sta, h.bi.set hn hb', h.len, h.gn.set hb hb' ht, h.sn⟩
theorem Ctx.made {D : List De} {K : Cfg} {i : Nat} {s s' : Gs} {w w' : World} {bb : Nat} {made new : List Nat} {n : Nat} (h : Ctx D K i s w bb made) (m : Made K s w bb made n s' new w') : Ctx D K i s' w' bb (made ++ new) :=
  ⟨m.bi, fun k e he hk => by rw [m.gle.nm]; exact h.nms k e he hk, h.prp.sta m.sta h.gN, h.gN, h.dk, h.il⟩
/-- a type is made -/
def Res (K : Cfg) (s : Gs) (w : World) (bb : Nat) (made : List Nat) (t : Ty) (r : Value) (w' : World) : Prop :=
  ∃ s' new, Made K s w bb made (wt t) s' new w' ∧ RT K s' w' (fun b => w.heap.size ≤ b) r t ∧ IsI r
/-- .. from a world that came a little later -/
theorem Res.before {K : Cfg} {s : Gs} {w0 w w' : World} {bb : Nat} {made : List Nat} {t : Ty} {r : Value} (x : Ext w0 w) (h : Res K s w bb made t r w') : Res K s w0 bb made t r w' := by
  obtain ⟨s', new, h1, h2, h3⟩ := h
  exact ⟨s', new, h1.before x, h2.mono fun b _ hb => Nat.le_trans x.size hb, h3⟩
/-- what is asked of a type -/
structure Ask (D : List De) (i : Nat) (w : World) (K : Cfg) (p : Nat → Prop) (cs : List Value) (t : Ty) : Prop where
  v : TyV w p cs t
  p : ∀ b, p b → b < K.N ∧ b < w.heap.size
  sh : ∃ v, Shaped D i v t
  lg : Legal D t
theorem Ask.ext {D : List De} {i : Nat} {w w' : World} {K : Cfg} {p : Nat → Prop} {cs : List Value} {t : Ty} (x : Ext w w') (h : Ask D i w K p cs t) : Ask D i w' K p cs t := ⟨h.v.ext x, fun b hb => ⟨(h.p b hb).1, Nat.lt_of_lt_of_le (h.p b hb).2 x.size⟩, h.sh, h.lg⟩
theorem Ask.sta {D : List De} {i l : Nat} {w w' : World} {K : Cfg} {p : Nat → Prop} {cs : List Value} {t : Ty} (x : Sta K l w w') (h : Ask D i w K p cs t) : Ask D i w' K p cs t :=
  ⟨h.v.same (x.olds h.p), fun b hb => ⟨(h.p b hb).1, Nat.lt_of_lt_of_le (h.p b hb).2 x.size⟩, h.sh, h.lg⟩
/-- the contract of typ at a type -/
def TypC (D : List De) (K : Cfg) (i : Nat) (t : Ty) : Prop := ∀ (s : Gs) (w : World) (bb : Nat) (made : List Nat) (p : Nat → Prop) (cs : List Value), Ctx D K i s w bb made → Ask D i w K p cs t → wt t + made.length ≤ Big →
  Calls Tryz.prog 79 #[pt bb, .agg cs.toArray] w (Ret (Res K s w bb made t))
end Go.Proofs.YtpiegpegjbmlkaaGreatDoor
namespace Go.Proofs.YtpiegpegjbmlkaaGreatDoor
open Go Go.Kd
set_option maxRecDepth 100000

theorem Own.ne {w : World} {base el sz : Nat} {v : Value} {ls : List (List Value)} (h : Own w base el sz v ls) {b t : Nat} {cs : Array Value} {fz : Nat × Nat} (hb : Has w b (.cells cs t fz)) (ht : t ≠ el) : ∀ k, v.ownBlock = some k → k ≠ b := fun k hk e => by
  rcases h.row.2 with ⟨h1, _⟩ | ⟨g, cap, cur, h1, _, h3, _⟩
  · rw [h1] at hk; cases hk
  · rw [h1] at hk
    cases hk
    subst e
    have := h3.symm.trans hb.at_
    simp at this
    exact ht this.2.1.symm
theorem mok_made {K : Cfg} {l b : Nat} {c0 c1 c2 c3 c4 c5 : Value} : MOk K l b tBU #[c0, c1, c2, c3, c4] #[c0, c1, c2, c3, c5] := ⟨rfl, fun i hi => by
  have h4 : i ≠ 4 := fun e => by
    subst e
    unfold mc at hi
    simp only [show ¬ tBU = tTY from by decide, show ¬ tBU = tIF from by decide, show ¬ tBU = tSG from by decide, show ¬ tBU = tNM from by decide, show ¬ tBU = tTN from by decide, if_false, if_true] at hi
    simp at hi
  match i, h4 with
  | 0, _ | 1, _ | 2, _ | 3, _ => rfl
  | i + 5, _ => rfl⟩
/-- one more interface in the builder's list -/
theorem BI.push {K : Cfg} {s : Gs} {w w2 w3 : World} {bb : Nat} {made : List Nat} (h : BI K s w bb made) {b : Nat} (hkb : Kno K s w b) {na : Option Addr} {nl nc : Nat} {v v' : Value} (h1 : Has w bb (.cells #[s.pk 0, s.pk 1, .slice na nl nc, s.er, v] tBU)) (h2 : Own w K.N tPI 1 v (made.map fun b => [pt b]))
    (h3 : ∀ i u, s.nm i = some u → ∃ cs, na = some ⟨K.nb, 0, none⟩ ∧ i < nl ∧ Has w K.nb (.cells cs tTY) ∧ cs[i]? = some u)
    (a : App w w2 v) (h4 : Own w2 K.N tPI 1 v' (made.map (fun b => [pt b]) ++ [[pt b]])) (u : Upd w2 bb (.cells #[s.pk 0, s.pk 1, .slice na nl nc, s.er, v'] tBU) w3) : BI K s w3 bb (made ++ [b]) ∧ Sta K 0 w w3 := by
  have k2 : Has w2 bb (.cells #[s.pk 0, s.pk 1, .slice na nl nc, s.er, v] tBU) := App.keep a h1 (Own.ne h2 h1 (by decide))
  have hst : Sta K 0 w w3 := (Sta.of_app a h2 (Nat.le_refl _)).trans (.of_upd k2 u h.N mok_made)
  refine ⟨⟨h.N, h.nbN, Nat.lt_of_lt_of_le h.nbL hst.size, fun n hn => ?_, h.er, h.nm, fun c x hc => Nat.lt_of_lt_of_le (h.gl c x hc) hst.size, fun d hd => Nat.lt_of_lt_of_le (h.sll d hd) hst.size, fun c hc => (show Kno K s w c from (List.mem_append.1 hc).elim (h.kn c) fun h => (List.mem_singleton.1 h) ▸ hkb).map (fun _ _ hr => hr.sta hst (by omega)) (fun _ _ h => h), na, nl, nc, v', u.has, ?_, fun i x hx => ?_⟩, hst⟩
  · obtain ⟨c, x, k1, k2⟩ := h.pkg n hn
    exact ⟨c, x, k1, Has.sta hst k2⟩
  · rw [List.map_append, List.map_singleton]
    exact h4.upd u (Own.ne h4 k2 (by decide))
  · obtain ⟨cs, k1, k2, k3, k4⟩ := h3 i x hx
    exact ⟨cs, k1, k2, Has.sta0 hst (by decide) (by decide) k3, k4⟩
theorem Fresh.tse {w : World} {b tb : Nat} {v : Value} {t : Ty} (h1 : Has w b (.cells (ifc none 0 0 none 0 0 (pt tb)) tIF)) (h2 : Has w tb (.cells #[.bool false, .slice none 0 0, v, .bool false] tTS)) (h3 : AllT w v) (ht : t.kind = 0 ∨ t.elems = []) : Fresh w b t :=
  .inr ⟨⟨tb, v, ⟨_, _, _, _, _, _, h1⟩, h2, h3⟩, ht⟩
theorem frow0 (w : World) (fb : Nat → Nat) (pk : Nat → Value) (nm path : Nat → ByteArray) (vv : Nat → Value) : FRow w 0 fb pk nm path vv := ⟨fun i hi => by omega, fun i hi => by omega, fun i hi => by omega, fun i j hi => by omega⟩

set_option maxHeartbeats 4000000 in
theorem c_basic (D : List De) (K : Cfg) (i : Nat) (s : Gs) (w : World) (bb : Nat) (made : List Nat) (t : Ty) (hx : Ctx D K i s w bb made) (hk : t.kind = 0) (h0 : 0 ≤ t.n) (h1 : t.n < 22) (hb : made.length < 1073741824) (hwf : WfI D t) :
    Calls Tryz.prog 112 #[pt bb, .int .i64 t.n] w (Ret (Res K s w bb made t)) := by
  obtain ⟨na, nl, nc, vm, hbb, how, hnm⟩ := hx.bi.ex
  have hwt := wt_pos t
  have fin : ∀ (n : Int), t.n = n → n < 20 → ∀ (b : Nat) (i : Int) (nm : ByteArray) (w' : World), w.heap.size ≤ b → Has w' b (.cells #[.int .i64 (bk n), .int .i64 (infK (bk n)), .string nm] 139) → Ext w w' → Res K s w bb made t (.iface 109 (pt b)) w' := fun n hn hn2 b i nm w' hge hhas x => by
    subst hn
    have hnone := hx.bi.fresh hge
    have hni : ¬ isIf t := by
      rintro (h | h)
      · omega
      · omega
    exact ⟨_, _, ((Made.rfl' hx.bi x).le (by omega)).set hge hnone hhas.lt hni, .basic t b i nm hk h0 hn2 hge hhas (Gs.set_same ..), _, _, rfl⟩
  generalize hn : t.n = n at *
  by_cases h21 : n = 21
  · subst h21
    refine W.enter (args := [pt bb, .int .i64 21]) Tryz.func112 rfl Tryz.ntmps112 rfl rfl ?_
    refine zst ?_
    refine WU.stp rfl rfl rfl (stp_call rfl (c_NewInterfaceType K none none 0 0 0 0 (fun _ => 0) (fun _ => 0) (fun _ => .nilIface) (fun _ => eB) (fun _ => eB) (fun _ => .nilIface) (fun _ => .nilIface) (fun _ => false) w hx.prp hx.gN (fun a ha => by cases ha) (fun i hi => by omega) (frow0 ..) (fun i hi => by omega) (fun i hi => by omega) (by omega))) ?_
    rintro _ w1 ⟨b, rfl, hge, hlt, ⟨-, -, ⟨tb, v, k1, k2, k3⟩, x1⟩ | ⟨hno, _⟩⟩
    · have hbb1 := hbb.ext' x1
      have how1 := how.ext x1
      refine zst ?_
      refine WU.stp rfl rfl rfl (stp_buildSlice rfl rfl rfl rfl rfl) ?_
      rintro _ w2 ⟨b2, rfl, n2⟩
      have hbb2 := hbb1.ext' n2.ext
      have how2 := how1.ext n2.ext
      refine WU.stp rfl rfl rfl (stp_append1 rfl rfl how2 (Cells.has n2.has) rfl rfl (by omega) (by simp [Value.oneCell']) (by rw [List.length_map]; omega) (Nat.le_trans (Nat.le_trans hx.bi.N (Nat.le_of_lt hbb.lt)) (Nat.le_trans x1.size n2.ext.size))) ?_
      rintro v' w3 ⟨o3, a3, _⟩
      have hbb3 : Has w3 bb (.cells #[s.pk 0, s.pk 1, .slice na nl nc, s.er, vm] tBU) := App.keep a3 hbb2 (Own.ne how2 hbb2 (by decide))
      obtain ⟨sa, scp, hsh, _, _⟩ := o3.shape
      subst hsh
      refine zst ?_
      refine WU.stp0 rfl rfl (stp_store_cell rfl rfl rfl rfl) ?_
      rintro _ w4 u4
      refine zst ?_
      have x2 : Ext w w2 := x1.trans n2.ext
      have hnone := hx.bi.fresh hge
      have hgs := (Gs.gle_set (t := t) hnone).trans (Gs.gle_seal (s.set b t) w.heap.size w2.heap.size)
      have hkb : Kno K ((s.set b t).clo w.heap.size w2.heap.size) w2 b := ⟨t, Gs.set_same .., .inr ⟨hk, hn⟩, by rw [hx.dk]; exact hwf, .any t b hk hn (.inr ⟨hge, Nat.lt_of_lt_of_le hlt n2.ext.size⟩) ⟨_, k1.ext' n2.ext⟩ (Gs.set_same ..)⟩
      obtain ⟨p1, p2⟩ := (((hx.bi.ext x2).set (t := t) hnone (Nat.lt_of_lt_of_le hlt n2.ext.size)).clo w.heap.size (Nat.le_refl _)).push hkb hbb2 how2 (fun i u hu => by
        obtain ⟨cs, q1, q2, q3, q4⟩ := hnm i u hu
        exact ⟨cs, q1, q2, q3.ext' x2, q4⟩) a3 o3 u4
      have hge' : w.heap.size ≤ b := hge
      have kb : Has w4 b (.cells (ifc none 0 0 none 0 0 (pt tb)) tIF) := Has.sta0 p2 (by decide) (by decide) (k1.ext' n2.ext)
      refine fin1 (.inl rfl) rfl rfl ⟨(s.set b t).clo w.heap.size w2.heap.size, [b], ⟨hgs, (Sta.of_ext x2).trans p2, p1, by rw [List.length_singleton]; exact hwt, fun c u hc => ?_, fun d hd => hd.imp id fun h => ⟨h.1, Nat.lt_of_lt_of_le h.2 p2.size⟩⟩, .any t b hk hn hge ⟨_, kb⟩ (Gs.set_same ..), _, _, rfl⟩
      replace hc : (if c = b then some t else s.g c) = some u := hc
      by_cases hcb : c = b
      · subst hcb
        simp only [if_true, Option.some.injEq] at hc
        subst hc
        exact .inr ⟨hge, kb.lt, fun _ => ⟨List.mem_singleton_self _, .tse kb (Has.sta p2 (k2.ext' n2.ext)) ((k3.ext n2.ext).sta p2) (.inl hk)⟩⟩
      · simp only [hcb, if_false] at hc
        exact .inl hc
    · exact absurd ⟨rfl, rfl⟩ hno
  by_cases h20 : n = 20
  · subst h20
    obtain ⟨T, eb, her⟩ := hx.bi.er
    have hbb' := hbb
    rw [her] at hbb'
    refine W.enter (args := [pt bb, .int .i64 20]) Tryz.func112 rfl Tryz.ntmps112 rfl rfl ?_
    refine zst ?_
    exact fin1 (.inl rfl) rfl rfl ⟨s, [], (Made.rfl' hx.bi (Ext.rfl' w)).le (by omega), by rw [← her]; exact .error t hk hn, _, _, rfl⟩
  have h19 : n < 20 := by omega
  clear h1 h21 h20 hbb how hnm
  have bas : ∀ (k : Int), 1 ≤ k ∧ k ≤ 18 → k = bk n → ∀ v w', (∃ b, ∃ _ : Int, ∃ nm, v = pt b ∧ w.heap.size ≤ b ∧ Has w' b (.cells #[.int .i64 k, .int .i64 (infK k), .string nm] 139) ∧ Ext w w') → Res K s w bb made t (.iface 109 v) w' := fun k _ hk v w' ⟨b, i, nm, h1, h2, h3, h4⟩ => by
    subst hk h1
    exact fin n rfl h19 b i nm w' h2 h3 h4
  clear fin
  obtain ⟨m, rfl⟩ := Int.eq_ofNat_of_zero_le h0
  clear hn h0
  match m, h19, bas with
  | 0, _, bas =>
    refine W.enter (args := [pt bb, .int .i64 0]) Tryz.func112 rfl Tryz.ntmps112 rfl rfl ?_
    refine zst ?_
    refine WU.stp rfl rfl rfl (stp_call rfl (c_Typ 1 w (by decide))) ?_
    rintro _ w' ⟨b, i, nm, rfl, g1, g2, g3⟩
    refine zst ?_
    exact fin1 (.inl rfl) rfl rfl (bas 1 (by decide) (by decide) _ w' ⟨b, i, nm, rfl, g1, g2, g3⟩)
  | 1, _, bas =>
    refine W.enter (args := [pt bb, .int .i64 1]) Tryz.func112 rfl Tryz.ntmps112 rfl rfl ?_
    refine zst ?_
    refine WU.stp rfl rfl rfl (stp_call rfl (c_Typ 2 w (by decide))) ?_
    rintro _ w' ⟨b, i, nm, rfl, g1, g2, g3⟩
    refine zst ?_
    exact fin1 (.inl rfl) rfl rfl (bas 2 (by decide) (by decide) _ w' ⟨b, i, nm, rfl, g1, g2, g3⟩)
  | 2, _, bas =>
    refine W.enter (args := [pt bb, .int .i64 2]) Tryz.func112 rfl Tryz.ntmps112 rfl rfl ?_
    refine zst ?_
    refine WU.stp rfl rfl rfl (stp_call rfl (c_Typ 3 w (by decide))) ?_
    rintro _ w' ⟨b, i, nm, rfl, g1, g2, g3⟩
    refine zst ?_
    exact fin1 (.inl rfl) rfl rfl (bas 3 (by decide) (by decide) _ w' ⟨b, i, nm, rfl, g1, g2, g3⟩)
  | 3, _, bas =>
    refine W.enter (args := [pt bb, .int .i64 3]) Tryz.func112 rfl Tryz.ntmps112 rfl rfl ?_
    refine zst ?_
    refine WU.stp rfl rfl rfl (stp_call rfl (c_Typ 4 w (by decide))) ?_
    rintro _ w' ⟨b, i, nm, rfl, g1, g2, g3⟩
    refine zst ?_
    exact fin1 (.inl rfl) rfl rfl (bas 4 (by decide) (by decide) _ w' ⟨b, i, nm, rfl, g1, g2, g3⟩)
  | 4, _, bas =>
    refine W.enter (args := [pt bb, .int .i64 4]) Tryz.func112 rfl Tryz.ntmps112 rfl rfl ?_
    refine zst ?_
    refine WU.stp rfl rfl rfl (stp_call rfl (c_Typ 5 w (by decide))) ?_
    rintro _ w' ⟨b, i, nm, rfl, g1, g2, g3⟩
    refine zst ?_
    exact fin1 (.inl rfl) rfl rfl (bas 5 (by decide) (by decide) _ w' ⟨b, i, nm, rfl, g1, g2, g3⟩)
  | 5, _, bas =>
    refine W.enter (args := [pt bb, .int .i64 5]) Tryz.func112 rfl Tryz.ntmps112 rfl rfl ?_
    refine zst ?_
    refine WU.stp rfl rfl rfl (stp_call rfl (c_Typ 6 w (by decide))) ?_
    rintro _ w' ⟨b, i, nm, rfl, g1, g2, g3⟩
    refine zst ?_
    exact fin1 (.inl rfl) rfl rfl (bas 6 (by decide) (by decide) _ w' ⟨b, i, nm, rfl, g1, g2, g3⟩)
  | 6, _, bas =>
    refine W.enter (args := [pt bb, .int .i64 6]) Tryz.func112 rfl Tryz.ntmps112 rfl rfl ?_
    refine zst ?_
    refine WU.stp rfl rfl rfl (stp_call rfl (c_Typ 7 w (by decide))) ?_
    rintro _ w' ⟨b, i, nm, rfl, g1, g2, g3⟩
    refine zst ?_
    exact fin1 (.inl rfl) rfl rfl (bas 7 (by decide) (by decide) _ w' ⟨b, i, nm, rfl, g1, g2, g3⟩)
  | 7, _, bas =>
    refine W.enter (args := [pt bb, .int .i64 7]) Tryz.func112 rfl Tryz.ntmps112 rfl rfl ?_
    refine zst ?_
    refine WU.stp rfl rfl rfl (stp_call rfl (c_Typ 8 w (by decide))) ?_
    rintro _ w' ⟨b, i, nm, rfl, g1, g2, g3⟩
    refine zst ?_
    exact fin1 (.inl rfl) rfl rfl (bas 8 (by decide) (by decide) _ w' ⟨b, i, nm, rfl, g1, g2, g3⟩)
  | 8, _, bas =>
    refine W.enter (args := [pt bb, .int .i64 8]) Tryz.func112 rfl Tryz.ntmps112 rfl rfl ?_
    refine zst ?_
    refine WU.stp rfl rfl rfl (stp_call rfl (c_Typ 9 w (by decide))) ?_
    rintro _ w' ⟨b, i, nm, rfl, g1, g2, g3⟩
    refine zst ?_
    exact fin1 (.inl rfl) rfl rfl (bas 9 (by decide) (by decide) _ w' ⟨b, i, nm, rfl, g1, g2, g3⟩)
  | 9, _, bas =>
    refine W.enter (args := [pt bb, .int .i64 9]) Tryz.func112 rfl Tryz.ntmps112 rfl rfl ?_
    refine zst ?_
    refine WU.stp rfl rfl rfl (stp_call rfl (c_Typ 10 w (by decide))) ?_
    rintro _ w' ⟨b, i, nm, rfl, g1, g2, g3⟩
    refine zst ?_
    exact fin1 (.inl rfl) rfl rfl (bas 10 (by decide) (by decide) _ w' ⟨b, i, nm, rfl, g1, g2, g3⟩)
  | 10, _, bas =>
    refine W.enter (args := [pt bb, .int .i64 10]) Tryz.func112 rfl Tryz.ntmps112 rfl rfl ?_
    refine zst ?_
    refine WU.stp rfl rfl rfl (stp_call rfl (c_Typ 11 w (by decide))) ?_
    rintro _ w' ⟨b, i, nm, rfl, g1, g2, g3⟩
    refine zst ?_
    exact fin1 (.inl rfl) rfl rfl (bas 11 (by decide) (by decide) _ w' ⟨b, i, nm, rfl, g1, g2, g3⟩)
  | 11, _, bas =>
    refine W.enter (args := [pt bb, .int .i64 11]) Tryz.func112 rfl Tryz.ntmps112 rfl rfl ?_
    refine zst ?_
    refine WU.stp rfl rfl rfl (stp_call rfl (c_Typ 12 w (by decide))) ?_
    rintro _ w' ⟨b, i, nm, rfl, g1, g2, g3⟩
    refine zst ?_
    exact fin1 (.inl rfl) rfl rfl (bas 12 (by decide) (by decide) _ w' ⟨b, i, nm, rfl, g1, g2, g3⟩)
  | 12, _, bas =>
    refine W.enter (args := [pt bb, .int .i64 12]) Tryz.func112 rfl Tryz.ntmps112 rfl rfl ?_
    refine zst ?_
    refine WU.stp rfl rfl rfl (stp_call rfl (c_Typ 13 w (by decide))) ?_
    rintro _ w' ⟨b, i, nm, rfl, g1, g2, g3⟩
    refine zst ?_
    exact fin1 (.inl rfl) rfl rfl (bas 13 (by decide) (by decide) _ w' ⟨b, i, nm, rfl, g1, g2, g3⟩)
  | 13, _, bas =>
    refine W.enter (args := [pt bb, .int .i64 13]) Tryz.func112 rfl Tryz.ntmps112 rfl rfl ?_
    refine zst ?_
    refine WU.stp rfl rfl rfl (stp_call rfl (c_Typ 14 w (by decide))) ?_
    rintro _ w' ⟨b, i, nm, rfl, g1, g2, g3⟩
    refine zst ?_
    exact fin1 (.inl rfl) rfl rfl (bas 14 (by decide) (by decide) _ w' ⟨b, i, nm, rfl, g1, g2, g3⟩)
  | 14, _, bas =>
    refine W.enter (args := [pt bb, .int .i64 14]) Tryz.func112 rfl Tryz.ntmps112 rfl rfl ?_
    refine zst ?_
    refine WU.stp rfl rfl rfl (stp_call rfl (c_Typ 15 w (by decide))) ?_
    rintro _ w' ⟨b, i, nm, rfl, g1, g2, g3⟩
    refine zst ?_
    exact fin1 (.inl rfl) rfl rfl (bas 15 (by decide) (by decide) _ w' ⟨b, i, nm, rfl, g1, g2, g3⟩)
  | 15, _, bas =>
    refine W.enter (args := [pt bb, .int .i64 15]) Tryz.func112 rfl Tryz.ntmps112 rfl rfl ?_
    refine zst ?_
    refine WU.stp rfl rfl rfl (stp_call rfl (c_Typ 16 w (by decide))) ?_
    rintro _ w' ⟨b, i, nm, rfl, g1, g2, g3⟩
    refine zst ?_
    exact fin1 (.inl rfl) rfl rfl (bas 16 (by decide) (by decide) _ w' ⟨b, i, nm, rfl, g1, g2, g3⟩)
  | 16, _, bas =>
    refine W.enter (args := [pt bb, .int .i64 16]) Tryz.func112 rfl Tryz.ntmps112 rfl rfl ?_
    refine zst ?_
    refine WU.stp rfl rfl rfl (stp_call rfl (c_Typ 17 w (by decide))) ?_
    rintro _ w' ⟨b, i, nm, rfl, g1, g2, g3⟩
    refine zst ?_
    exact fin1 (.inl rfl) rfl rfl (bas 17 (by decide) (by decide) _ w' ⟨b, i, nm, rfl, g1, g2, g3⟩)
  | 17, _, bas =>
    refine W.enter (args := [pt bb, .int .i64 17]) Tryz.func112 rfl Tryz.ntmps112 rfl rfl ?_
    refine zst ?_
    refine WU.stp rfl rfl rfl (stp_call rfl (c_Typ 18 w (by decide))) ?_
    rintro _ w' ⟨b, i, nm, rfl, g1, g2, g3⟩
    refine zst ?_
    exact fin1 (.inl rfl) rfl rfl (bas 18 (by decide) (by decide) _ w' ⟨b, i, nm, rfl, g1, g2, g3⟩)
  | 18, _, bas =>
    refine W.enter (args := [pt bb, .int .i64 18]) Tryz.func112 rfl Tryz.ntmps112 rfl rfl ?_
    refine zst ?_
    refine WU.stp rfl rfl rfl (stp_call rfl (c_Typ 8 w (by decide))) ?_
    rintro _ w' ⟨b, i, nm, rfl, g1, g2, g3⟩
    refine zst ?_
    exact fin1 (.inl rfl) rfl rfl (bas 8 (by decide) (by decide) _ w' ⟨b, i, nm, rfl, g1, g2, g3⟩)
  | 19, _, bas =>
    refine W.enter (args := [pt bb, .int .i64 19]) Tryz.func112 rfl Tryz.ntmps112 rfl rfl ?_
    refine zst ?_
    refine WU.stp rfl rfl rfl (stp_call rfl (c_Typ 5 w (by decide))) ?_
    rintro _ w' ⟨b, i, nm, rfl, g1, g2, g3⟩
    refine zst ?_
    exact fin1 (.inl rfl) rfl rfl (bas 5 (by decide) (by decide) _ w' ⟨b, i, nm, rfl, g1, g2, g3⟩)
  | m + 20, h, _ => exact absurd h (by omega)
end Go.Proofs.YtpiegpegjbmlkaaGreatDoor
namespace Go.Proofs.YtpiegpegjbmlkaaGreatDoor
open Go Go.Kd
set_option maxRecDepth 100000

theorem Cells.sameB {w w' : World} {b o : Nat} {cs : List Value} (hs : w'.heap[b]? = w.heap[b]?) (h : Cells w b o cs) : Cells w' b o cs := fun j v hv => by
  have := h j v hv
  unfold World.cell? at this ⊢
  rw [hs]; exact this
theorem Ask.open {D : List De} {i : Nat} {w : World} {K : Cfg} {p : Nat → Prop} {cs : List Value} {t : Ty} (h : Ask D i w K p cs t) : ∃ a cp, cs = tyc t a cp ∧ TysV w p a cp t.elems := h.v.tys
/-- an element of a type -/
theorem Ask.el {D : List De} {i : Nat} {w : World} {K : Cfg} {p : Nat → Prop} {cs : List Value} {t : Ty} (h : Ask D i w K p cs t) {a : Option Addr} {cp : Nat} (hv : TysV w p a cp t.elems) {j : Nat} {e : Ty} (he : t.elems[j]? = some e) :
    ∃ b o a3 c3, a = some ⟨b, o, none⟩ ∧ p b ∧ Cells w b (o + j * 8) (tyc e a3 c3) ∧ Ask D i w K p (tyc e a3 c3) e := by
  obtain ⟨b, o, a3, c3, h1, h2, h3, h4⟩ := hv.next he
  obtain ⟨v, hs⟩ := h.sh
  exact ⟨b, o, a3, c3, h1, h2, h3, .of_tys h4, h.p, ⟨_, hs.el j e he⟩, h.lg.el j e he⟩
theorem RT.ext {K : Cfg} {s : Gs} {w w' : World} {p : Nat → Prop} (x : Ext w w') {v : Value} {t : Ty} (h : RT K s w p v t) : RT K s w' p v t := h.sta (l := 0) (.of_ext x) (by omega)
theorem len_one {l : List Ty} (h : (l.length : Int) = 1) : ∃ e, l = [e] := by
  match l, h with
  | [e], _ => exact ⟨e, rfl⟩
theorem len_two {l : List Ty} (h : (l.length : Int) = 2) : ∃ e f, l = [e, f] := by
  match l, h with
  | [e, f], _ => exact ⟨e, f, rfl⟩
theorem wt_one {t e : Ty} (h : t.elems = [e]) : wt e < wt t := wt_el (t := t) (i := 0) (by rw [h]; rfl)
theorem wt_two {t e f : Ty} (h : t.elems = [e, f]) : wt e + wt f < wt t := by
  rw [wt_eq t, h]; simp only [wts]; omega

set_option maxHeartbeats 1000000 in
theorem typ_named (D : List De) (K : Cfg) (i : Nat) (t : Ty) (hk : t.kind = 1) : TypC D K i t := by
  intro s w bb made p cs hx ha hb
  obtain ⟨a, cp, rfl, hv⟩ := ha.open
  obtain ⟨v, hs⟩ := ha.sh
  have hsh := hs.shape
  have h0 := hsh.n0 (by rw [hk]; simp [limitN])
  have h1 : t.n < D.length := by have := hsh.n1 (by rw [hk]; simp [limitN]); rw [hk] at this; simpa [limitN] using this
  obtain ⟨na, nl, nc, vm, hbb, how, hnm⟩ := hx.bi.ex
  obtain ⟨n, hn⟩ := Int.eq_ofNat_of_zero_le h0
  have hlt : n < D.length := by omega
  obtain ⟨u, hu⟩ := hx.nms n D[n] (List.getElem?_eq_getElem hlt) (by
    cases hal : D[n].al
    · exact .inl rfl
    · right
      have : isAl D t = true := by
        unfold isAl decl
        rw [if_pos hk, hn, Int.toNat_natCast, List.getElem?_eq_getElem hlt]
        exact hal
      have := hsh.nm hk (.inr this)
      omega)
  obtain ⟨T, ub, rfl⟩ := hx.bi.nm n u hu
  obtain ⟨ncs, rfl, hnl, hnb, hnc⟩ := hnm n _ hu
  have hRT : RT K s w (fun b => w.heap.size ≤ b) (.iface T (pt ub)) t := .named t _ hk (by rw [hn, Int.toNat_natCast]; exact hu)
  unfold tyc
  rw [hk, hn]
  refine W.enter (args := [pt bb, .agg (tyl 1 n t.count t.vr (.slice a t.elems.length cp) t.name t.tag t.emb).toArray]) Tryz.func79 rfl Tryz.ntmps79 rfl rfl ?_
  refine zst ?_
  refine WU.stp rfl rfl rfl (by first | exact stp_box rfl rfl | exact stp_box1 rfl rfl) ?_
  rintro _ w1 ⟨b1, rfl, n1⟩
  refine zst ?_
  refine W.regD [(0, .q), (1, .q), (2, .q), (3, .q), (4, .q), (5, .q), (6, .q), (7, .q), (8, .q)] (by kernel_rfl) (by kernel_rfl) rfl ?_
  intro w2 x2 _
  have hbb2 := (hbb.ext' n1.ext).ext' x2
  have hc2 : w2.cell? ⟨K.nb, 0 + n * 1, none⟩ = some (.iface T (pt ub)) := by rw [Nat.mul_one, Nat.zero_add]; exact cell_of ((hnb.ext' n1.ext).ext' x2) hnc
  refine zsd ?_
  refine WD.yld rfl rfl rfl rfl (yld_load_c rfl hc2) ?_
  refine zsd ?_
  refine zst ?_
  have x := n1.ext.trans x2
  exact fin1 (.inl rfl) rfl rfl ⟨s, [], (Made.rfl' hx.bi x).le (by have := wt_pos t; omega), RT.ext x hRT, _, _, rfl⟩

set_option maxHeartbeats 1000000 in
theorem typ_pointer (D : List De) (K : Cfg) (i : Nat) (t : Ty) (hk : t.kind = 2) (ih : ∀ (j : Nat) e, t.elems[j]? = some e → TypC D K i e) : TypC D K i t := by
  intro s w bb made p cs hx ha hb
  obtain ⟨a, cp, rfl, hv⟩ := ha.open
  obtain ⟨v, hs⟩ := ha.sh
  have hlen := hs.shape.len (by rw [hk]; simp [elemsN])
  rw [hk] at hlen
  obtain ⟨e, hel⟩ := len_one hlen
  have he : t.elems[0]? = some e := by rw [hel]; rfl
  have hwe := wt_one hel
  obtain ⟨b, o, a3, c3, rfl, hpb, hc, hae⟩ := ha.el hv he
  have hl0 : 0 < t.elems.length := by rw [hel]; exact Nat.one_pos
  unfold tyc
  rw [hk]
  refine W.enter (args := [pt bb, .agg (tyl 2 t.n t.count t.vr (.slice (some ⟨b, o, none⟩) t.elems.length cp) t.name t.tag t.emb).toArray]) Tryz.func79 rfl Tryz.ntmps79 rfl rfl ?_
  refine zst ?_
  refine WU.stp rfl rfl rfl (by first | exact stp_box rfl rfl | exact stp_box1 rfl rfl) ?_
  rintro _ w1 ⟨b1, rfl, n1⟩
  have hc1 : Cells w1 b (o + 0 * 8) (tyc e a3 c3) := hc.ext n1.ext
  refine zst ?_
  refine WU.yld rfl rfl rfl (yld_load_cells rfl hc1) ?_
  refine zst ?_
  refine WU.stp rfl rfl rfl (stp_call rfl (ih 0 e he s w1 bb made p _ (hx.ext n1.ext) (hae.ext n1.ext) (by omega))) ?_
  rintro r w2 ⟨s', new, m2, rt2, T, eb, rfl⟩
  refine WU.stp rfl rfl rfl (stp_call rfl (c_NewPointer T (pt eb) w2)) ?_
  rintro _ w3 ⟨b3, rfl, n3⟩
  refine zst ?_
  have hge : w1.heap.size ≤ b3 := by have := n3.num; have := m2.sta.size; omega
  have hnone : s'.g b3 = none := m2.bi.fresh (by have := n3.num; omega)
  have hni : ¬ isIf t := by
    rintro (h | h)
    · omega
    · omega
  refine fin1 (.inl rfl) rfl rfl ⟨_, _, ((m2.ext n3.ext).set hge hnone n3.has.lt hni).before n1.ext |>.le (by omega), .ptr t e _ b3 hk hel ?_ (by have := n1.ext.size; omega) n3.has (Gs.set_same ..), _, _, rfl⟩
  exact ((RT.ext n3.ext rt2).le (Gs.gle_set hnone).le).mono fun c _ hc => Nat.le_trans n1.ext.size hc

set_option maxHeartbeats 1000000 in
theorem typ_slice (D : List De) (K : Cfg) (i : Nat) (t : Ty) (hk : t.kind = 3) (ih : ∀ (j : Nat) e, t.elems[j]? = some e → TypC D K i e) : TypC D K i t := by
  intro s w bb made p cs hx ha hb
  obtain ⟨a, cp, rfl, hv⟩ := ha.open
  obtain ⟨v, hs⟩ := ha.sh
  have hlen := hs.shape.len (by rw [hk]; simp [elemsN])
  rw [hk] at hlen
  obtain ⟨e, hel⟩ := len_one hlen
  have he : t.elems[0]? = some e := by rw [hel]; rfl
  have hwe := wt_one hel
  obtain ⟨b, o, a3, c3, rfl, hpb, hc, hae⟩ := ha.el hv he
  have hl0 : 0 < t.elems.length := by rw [hel]; exact Nat.one_pos
  unfold tyc
  rw [hk]
  refine W.enter (args := [pt bb, .agg (tyl 3 t.n t.count t.vr (.slice (some ⟨b, o, none⟩) t.elems.length cp) t.name t.tag t.emb).toArray]) Tryz.func79 rfl Tryz.ntmps79 rfl rfl ?_
  refine zst ?_
  refine WU.stp rfl rfl rfl (by first | exact stp_box rfl rfl | exact stp_box1 rfl rfl) ?_
  rintro _ w1 ⟨b1, rfl, n1⟩
  have hc1 : Cells w1 b (o + 0 * 8) (tyc e a3 c3) := hc.ext n1.ext
  refine zst ?_
  refine WU.yld rfl rfl rfl (yld_load_cells rfl hc1) ?_
  refine zst ?_
  refine WU.stp rfl rfl rfl (stp_call rfl (ih 0 e he s w1 bb made p _ (hx.ext n1.ext) (hae.ext n1.ext) (by omega))) ?_
  rintro r w2 ⟨s', new, m2, rt2, T, eb, rfl⟩
  refine WU.stp rfl rfl rfl (stp_call rfl (c_NewSlice T (pt eb) w2)) ?_
  rintro _ w3 ⟨b3, rfl, n3⟩
  refine zst ?_
  have hge : w1.heap.size ≤ b3 := by have := n3.num; have := m2.sta.size; omega
  have hnone : s'.g b3 = none := m2.bi.fresh (by have := n3.num; omega)
  have hni : ¬ isIf t := by
    rintro (h | h)
    · omega
    · omega
  refine fin1 (.inl rfl) rfl rfl ⟨_, _, ((m2.ext n3.ext).set hge hnone n3.has.lt hni).before n1.ext |>.le (by omega), .slice t e _ b3 hk hel ?_ (by have := n1.ext.size; omega) n3.has (Gs.set_same ..), _, _, rfl⟩
  exact ((RT.ext n3.ext rt2).le (Gs.gle_set hnone).le).mono fun c _ hc => Nat.le_trans n1.ext.size hc

set_option maxHeartbeats 1000000 in
theorem typ_array (D : List De) (K : Cfg) (i : Nat) (t : Ty) (hk : t.kind = 4) (ih : ∀ (j : Nat) e, t.elems[j]? = some e → TypC D K i e) : TypC D K i t := by
  intro s w bb made p cs hx ha hb
  obtain ⟨a, cp, rfl, hv⟩ := ha.open
  obtain ⟨v, hs⟩ := ha.sh
  have hlen := hs.shape.len (by rw [hk]; simp [elemsN])
  rw [hk] at hlen
  obtain ⟨e, hel⟩ := len_one hlen
  have he : t.elems[0]? = some e := by rw [hel]; rfl
  have hwe := wt_one hel
  obtain ⟨b, o, a3, c3, rfl, hpb, hc, hae⟩ := ha.el hv he
  have hl0 : 0 < t.elems.length := by rw [hel]; exact Nat.one_pos
  unfold tyc
  rw [hk]
  refine W.enter (args := [pt bb, .agg (tyl 4 t.n t.count t.vr (.slice (some ⟨b, o, none⟩) t.elems.length cp) t.name t.tag t.emb).toArray]) Tryz.func79 rfl Tryz.ntmps79 rfl rfl ?_
  refine zst ?_
  refine WU.stp rfl rfl rfl (by first | exact stp_box rfl rfl | exact stp_box1 rfl rfl) ?_
  rintro _ w1 ⟨b1, rfl, n1⟩
  have hc1 : Cells w1 b (o + 0 * 8) (tyc e a3 c3) := hc.ext n1.ext
  have ib1 := n1.has
  obtain ⟨F, hFd⟩ : ∃ F : World → Prop, ∀ W, F W ↔ (Has W b1 (.cells #[.int .i64 4, .int .i64 t.n, .int .i64 t.count, .bool t.vr, .slice (some ⟨b, o, none⟩) t.elems.length cp, .string t.name, .string t.tag, .bool t.emb] 26) ∧ Cells W b (o + 0 * 8) (tyc e a3 c3)) := ⟨fun W => (Has W b1 (.cells #[.int .i64 4, .int .i64 t.n, .int .i64 t.count, .bool t.vr, .slice (some ⟨b, o, none⟩) t.elems.length cp, .string t.name, .string t.tag, .bool t.emb] 26) ∧ Cells W b (o + 0 * 8) (tyc e a3 c3)), fun _ => Iff.rfl⟩
  refine zst ?_
  refine W.regR (R := fun a b => F a → F b) (fun _ h => h) (fun _ _ _ h k x => k (h x)) [(0, .q), (1, .q), (2, .q), (3, .q), (4, .q), (6, .q), (7, .q), (5, .l), (8, .l), (9, .q), (10, .q)] (by kernel_rfl) (by kernel_rfl) rfl ?_
  intro w2 x2 _
  have hF : F w2 := (hFd _).2 ⟨ib1.ext' x2, hc1.ext x2⟩
  have x12 := n1.ext.trans x2
  (repeat (first
      | refine WR.nilk ?_
      | refine WR.nil ?_
      | refine WR.yld (fun _ h => h) rfl rfl rfl rfl (fun w' hx => by obtain ⟨i1, i2⟩ := (hFd _).1 (hx hF); first | exact zyl | (exact yld_load_cells rfl i2) | exact yld_indexAddr_arr rfl rfl (by omega)) ?_
      | refine WR.skip rfl rfl rfl rfl ?_))
  refine WR.stp rfl rfl rfl rfl (stp_call rfl (ih 0 e he s w2 bb made p _ (hx.ext x12) (hae.ext x12) (by omega))) ?_
  rintro r w3 ⟨s', new, m3, rt3, T, eb, rfl⟩
  have hF : F w3 := (hFd _).2 ⟨Has.sta m3.sta (ib1.ext' x2), Cells.sameB (m3.sta.old b (ha.p b hpb).1 (Nat.lt_of_lt_of_le (ha.p b hpb).2 x12.size)) (hc1.ext x2)⟩
  refine ⟨fun _ => hF, ?_⟩
  (repeat (first
      | refine WR.nilk ?_
      | refine WR.nil ?_
      | refine WR.yld (fun _ h => h) rfl rfl rfl rfl (fun w' hx => by obtain ⟨i1, i2⟩ := (hFd _).1 (hx hF); first | exact zyl | (exact yld_load_cells rfl i2) | exact yld_indexAddr_arr rfl rfl (by omega)) ?_
      | refine WR.skip rfl rfl rfl rfl ?_))
  refine WR.stp rfl rfl rfl rfl (stp_call rfl (c_NewArray T (pt eb) t.n w3)) ?_
  rintro _ w4 ⟨b4, rfl, n4⟩
  have hF : F w4 := (hFd _).2 ⟨((hFd _).1 hF).1.ext' n4.ext, ((hFd _).1 hF).2.ext n4.ext⟩
  refine ⟨fun _ => hF, ?_⟩
  (repeat (first
      | refine WR.nilk ?_
      | refine WR.nil ?_
      | refine WR.yld (fun _ h => h) rfl rfl rfl rfl (fun w' hx => by obtain ⟨i1, i2⟩ := (hFd _).1 (hx hF); first | exact zyl | (exact yld_load_cells rfl i2) | exact yld_indexAddr_arr rfl rfl (by omega)) ?_
      | refine WR.skip rfl rfl rfl rfl ?_))
  refine zst ?_
  have hge : w2.heap.size ≤ b4 := by have := n4.num; have := m3.sta.size; omega
  have hnone : s'.g b4 = none := m3.bi.fresh (by have := n4.num; omega)
  have hni : ¬ isIf t := by
    rintro (h | h)
    · omega
    · omega
  refine fin1 (.inl rfl) rfl rfl ⟨_, _, ((m3.ext n4.ext).set hge hnone n4.has.lt hni).before x12 |>.le (by omega), .array t e _ b4 hk hel ?_ (by have := x12.size; omega) n4.has (Gs.set_same ..), _, _, rfl⟩
  exact ((RT.ext n4.ext rt3).le (Gs.gle_set hnone).le).mono fun c _ hc => Nat.le_trans x12.size hc

set_option maxHeartbeats 1000000 in
theorem typ_chan (D : List De) (K : Cfg) (i : Nat) (t : Ty) (hk : t.kind = 6) (ih : ∀ (j : Nat) e, t.elems[j]? = some e → TypC D K i e) : TypC D K i t := by
  intro s w bb made p cs hx ha hb
  obtain ⟨a, cp, rfl, hv⟩ := ha.open
  obtain ⟨v, hs⟩ := ha.sh
  have hlen := hs.shape.len (by rw [hk]; simp [elemsN])
  rw [hk] at hlen
  obtain ⟨e, hel⟩ := len_one hlen
  have he : t.elems[0]? = some e := by rw [hel]; rfl
  have hwe := wt_one hel
  obtain ⟨b, o, a3, c3, rfl, hpb, hc, hae⟩ := ha.el hv he
  have hl0 : 0 < t.elems.length := by rw [hel]; exact Nat.one_pos
  have hn0 := hs.shape.n0 (by rw [hk]; simp [limitN])
  have hn1 := hs.shape.n1 (by rw [hk]; simp [limitN])
  rw [hk] at hn1
  unfold tyc
  rw [hk]
  refine W.enter (args := [pt bb, .agg (tyl 6 t.n t.count t.vr (.slice (some ⟨b, o, none⟩) t.elems.length cp) t.name t.tag t.emb).toArray]) Tryz.func79 rfl Tryz.ntmps79 rfl rfl ?_
  refine zst ?_
  refine WU.stp rfl rfl rfl (by first | exact stp_box rfl rfl | exact stp_box1 rfl rfl) ?_
  rintro _ w1 ⟨b1, rfl, n1⟩
  have hc1 : Cells w1 b (o + 0 * 8) (tyc e a3 c3) := hc.ext n1.ext
  have ib1 := n1.has
  obtain ⟨F, hFd⟩ : ∃ F : World → Prop, ∀ W, F W ↔ (Has W b1 (.cells #[.int .i64 6, .int .i64 t.n, .int .i64 t.count, .bool t.vr, .slice (some ⟨b, o, none⟩) t.elems.length cp, .string t.name, .string t.tag, .bool t.emb] 26) ∧ Cells W b (o + 0 * 8) (tyc e a3 c3)) := ⟨fun W => (Has W b1 (.cells #[.int .i64 6, .int .i64 t.n, .int .i64 t.count, .bool t.vr, .slice (some ⟨b, o, none⟩) t.elems.length cp, .string t.name, .string t.tag, .bool t.emb] 26) ∧ Cells W b (o + 0 * 8) (tyc e a3 c3)), fun _ => Iff.rfl⟩
  refine zst ?_
  refine W.regR (R := fun a b => F a → F b) (fun _ h => h) (fun _ _ _ h k x => k (h x)) [(0, .q), (1, .q), (3, .q), (4, .q), (5, .q), (6, .q), (7, .q), (2, .l), (8, .l), (9, .l), (10, .q), (11, .q)] (by kernel_rfl) (by kernel_rfl) rfl ?_
  intro w2 x2 _
  have hF : F w2 := (hFd _).2 ⟨ib1.ext' x2, hc1.ext x2⟩
  have x12 := n1.ext.trans x2
  (repeat (first
      | refine WR.nilk ?_
      | refine WR.nil ?_
      | refine WR.yld (fun _ h => h) rfl rfl rfl rfl (fun w' hx => by obtain ⟨i1, i2⟩ := (hFd _).1 (hx hF); first | exact zyl | (exact yld_load_cells rfl i2) | exact yld_indexAddr_arr rfl rfl (by omega)) ?_
      | refine WR.skip rfl rfl rfl rfl ?_))
  refine WR.stp rfl rfl rfl rfl (stp_call rfl (c_direction t.n w2 ⟨hn0, by simpa [limitN] using hn1⟩)) ?_
  rintro _ _ ⟨rfl, rfl⟩
  refine ⟨fun h => h, ?_⟩
  (repeat (first
      | refine WR.nilk ?_
      | refine WR.nil ?_
      | refine WR.yld (fun _ h => h) rfl rfl rfl rfl (fun w' hx => by obtain ⟨i1, i2⟩ := (hFd _).1 (hx hF); first | exact zyl | (exact yld_load_cells rfl i2) | exact yld_indexAddr_arr rfl rfl (by omega)) ?_
      | refine WR.skip rfl rfl rfl rfl ?_))
  refine WR.stp rfl rfl rfl rfl (stp_call rfl (ih 0 e he s w2 bb made p _ (hx.ext x12) (hae.ext x12) (by omega))) ?_
  rintro r w3 ⟨s', new, m3, rt3, T, eb, rfl⟩
  have hF : F w3 := (hFd _).2 ⟨Has.sta m3.sta (ib1.ext' x2), Cells.sameB (m3.sta.old b (ha.p b hpb).1 (Nat.lt_of_lt_of_le (ha.p b hpb).2 x12.size)) (hc1.ext x2)⟩
  refine ⟨fun _ => hF, ?_⟩
  (repeat (first
      | refine WR.nilk ?_
      | refine WR.nil ?_
      | refine WR.yld (fun _ h => h) rfl rfl rfl rfl (fun w' hx => by obtain ⟨i1, i2⟩ := (hFd _).1 (hx hF); first | exact zyl | (exact yld_load_cells rfl i2) | exact yld_indexAddr_arr rfl rfl (by omega)) ?_
      | refine WR.skip rfl rfl rfl rfl ?_))
  refine WR.stp rfl rfl rfl rfl (stp_call rfl (c_NewChan t.n T (pt eb) w3)) ?_
  rintro _ w4 ⟨b4, rfl, n4⟩
  have hF : F w4 := (hFd _).2 ⟨((hFd _).1 hF).1.ext' n4.ext, ((hFd _).1 hF).2.ext n4.ext⟩
  refine ⟨fun _ => hF, ?_⟩
  (repeat (first
      | refine WR.nilk ?_
      | refine WR.nil ?_
      | refine WR.yld (fun _ h => h) rfl rfl rfl rfl (fun w' hx => by obtain ⟨i1, i2⟩ := (hFd _).1 (hx hF); first | exact zyl | (exact yld_load_cells rfl i2) | exact yld_indexAddr_arr rfl rfl (by omega)) ?_
      | refine WR.skip rfl rfl rfl rfl ?_))
  refine zst ?_
  have hge : w2.heap.size ≤ b4 := by have := n4.num; have := m3.sta.size; omega
  have hnone : s'.g b4 = none := m3.bi.fresh (by have := n4.num; omega)
  have hni : ¬ isIf t := by
    rintro (h | h)
    · omega
    · omega
  refine fin1 (.inl rfl) rfl rfl ⟨_, _, ((m3.ext n4.ext).set hge hnone n4.has.lt hni).before x12 |>.le (by omega), .chan t e _ b4 hk hel ?_ (by have := x12.size; omega) n4.has (Gs.set_same ..), _, _, rfl⟩
  exact ((RT.ext n4.ext rt3).le (Gs.gle_set hnone).le).mono fun c _ hc => Nat.le_trans x12.size hc

set_option maxHeartbeats 2000000 in
theorem typ_map (D : List De) (K : Cfg) (i : Nat) (t : Ty) (hk : t.kind = 5) (ih : ∀ (j : Nat) e, t.elems[j]? = some e → TypC D K i e) : TypC D K i t := by
  intro s w bb made p cs hx ha hb
  obtain ⟨a, cp, rfl, hv⟩ := ha.open
  obtain ⟨v, hs⟩ := ha.sh
  have hlen := hs.shape.len (by rw [hk]; simp [elemsN])
  rw [hk] at hlen
  obtain ⟨e, f, hel⟩ := len_two hlen
  have he : t.elems[0]? = some e := by rw [hel]; rfl
  have hf : t.elems[1]? = some f := by rw [hel]; rfl
  have hwe := wt_two hel
  obtain ⟨b, o, a3, c3, rfl, hpb, hc, hae⟩ := ha.el hv he
  obtain ⟨b', o', a4, c4, hbo, _, hc', haf⟩ := ha.el hv hf
  cases hbo
  have hl0 : 1 < t.elems.length := by rw [hel]; simp
  unfold tyc
  rw [hk]
  refine W.enter (args := [pt bb, .agg (tyl 5 t.n t.count t.vr (.slice (some ⟨b, o, none⟩) t.elems.length cp) t.name t.tag t.emb).toArray]) Tryz.func79 rfl Tryz.ntmps79 rfl rfl ?_
  refine zst ?_
  refine WU.stp rfl rfl rfl (by first | exact stp_box rfl rfl | exact stp_box1 rfl rfl) ?_
  rintro _ w1 ⟨b1, rfl, n1⟩
  have hc1 : Cells w1 b (o + 0 * 8) (tyc e a3 c3) := hc.ext n1.ext
  have hc1' : Cells w1 b (o + 1 * 8) (tyc f a4 c4) := hc'.ext n1.ext
  have ib1 := n1.has
  obtain ⟨F, hFd⟩ : ∃ F : World → Prop, ∀ W, F W ↔ (Has W b1 (.cells #[.int .i64 5, .int .i64 t.n, .int .i64 t.count, .bool t.vr, .slice (some ⟨b, o, none⟩) t.elems.length cp, .string t.name, .string t.tag, .bool t.emb] 26) ∧ Cells W b (o + 0 * 8) (tyc e a3 c3) ∧ Cells W b (o + 1 * 8) (tyc f a4 c4)) := ⟨fun W => (Has W b1 (.cells #[.int .i64 5, .int .i64 t.n, .int .i64 t.count, .bool t.vr, .slice (some ⟨b, o, none⟩) t.elems.length cp, .string t.name, .string t.tag, .bool t.emb] 26) ∧ Cells W b (o + 0 * 8) (tyc e a3 c3) ∧ Cells W b (o + 1 * 8) (tyc f a4 c4)), fun _ => Iff.rfl⟩
  refine zst ?_
  refine W.regR (R := fun a b => F a → F b) (fun _ h => h) (fun _ _ _ h k x => k (h x)) [(0, .q), (1, .q), (2, .q), (3, .q), (4, .q), (6, .q), (7, .q), (8, .q), (9, .q), (10, .q), (5, .l), (11, .l), (12, .l), (13, .q), (14, .q)] (by kernel_rfl) (by kernel_rfl) rfl ?_
  intro w2 x2 _
  have hF : F w2 := (hFd _).2 ⟨ib1.ext' x2, hc1.ext x2, hc1'.ext x2⟩
  have x12 := n1.ext.trans x2
  (repeat (first
      | refine WR.nilk ?_
      | refine WR.nil ?_
      | refine WR.yld (fun _ h => h) rfl rfl rfl rfl (fun w' hx => by obtain ⟨i1, i2, i3⟩ := (hFd _).1 (hx hF); first | exact zyl | (exact yld_load_cells rfl i2) | exact yld_indexAddr_arr rfl rfl (by omega)) ?_
      | refine WR.skip rfl rfl rfl rfl ?_))
  refine WR.yld (fun _ h => h) rfl rfl rfl rfl (fun w' hx => by obtain ⟨i1, i2, i3⟩ := (hFd _).1 (hx hF); exact yld_load_cells rfl i3) ?_
  (repeat (first
      | refine WR.nilk ?_
      | refine WR.nil ?_
      | refine WR.yld (fun _ h => h) rfl rfl rfl rfl (fun w' hx => by obtain ⟨i1, i2, i3⟩ := (hFd _).1 (hx hF); first | exact zyl | (exact yld_load_cells rfl i2) | exact yld_indexAddr_arr rfl rfl (by omega)) ?_
      | refine WR.skip rfl rfl rfl rfl ?_))
  refine WR.stp rfl rfl rfl rfl (stp_call rfl (ih 0 e he s w2 bb made p _ (hx.ext x12) (hae.ext x12) (by omega))) ?_
  rintro r w3 ⟨s', new, m3, rt3, T, eb, rfl⟩
  have hold := m3.sta.old b (ha.p b hpb).1 (Nat.lt_of_lt_of_le (ha.p b hpb).2 x12.size)
  have hF : F w3 := (hFd _).2 ⟨Has.sta m3.sta (ib1.ext' x2), Cells.sameB hold (hc1.ext x2), Cells.sameB hold (hc1'.ext x2)⟩
  refine ⟨fun _ => hF, ?_⟩
  (repeat (first
      | refine WR.nilk ?_
      | refine WR.nil ?_
      | refine WR.yld (fun _ h => h) rfl rfl rfl rfl (fun w' hx => by obtain ⟨i1, i2, i3⟩ := (hFd _).1 (hx hF); first | exact zyl | (exact yld_load_cells rfl i3) | exact yld_indexAddr_arr rfl rfl (by omega)) ?_
      | refine WR.skip rfl rfl rfl rfl ?_))
  have hln := m3.len
  refine WR.stp rfl rfl rfl rfl (stp_call rfl (ih 1 f hf s' w3 bb (made ++ new) p _ ((hx.ext x12).made m3) ((haf.ext x12).sta m3.sta) (by rw [List.length_append]; omega))) ?_
  rintro r w4 ⟨s'', new', m4, rt4, T', eb', rfl⟩
  have hold' := m4.sta.old b (ha.p b hpb).1 (Nat.lt_of_lt_of_le (Nat.lt_of_lt_of_le (ha.p b hpb).2 x12.size) m3.sta.size)
  have hF : F w4 := (hFd _).2 ⟨Has.sta m4.sta ((hFd _).1 hF).1, Cells.sameB hold' ((hFd _).1 hF).2.1, Cells.sameB hold' ((hFd _).1 hF).2.2⟩
  refine ⟨fun _ => hF, ?_⟩
  (repeat (first
      | refine WR.nilk ?_
      | refine WR.nil ?_
      | refine WR.yld (fun _ h => h) rfl rfl rfl rfl (fun w' hx => by obtain ⟨i1, i2, i3⟩ := (hFd _).1 (hx hF); first | exact zyl | (exact yld_load_cells rfl i3) | exact yld_indexAddr_arr rfl rfl (by omega)) ?_
      | refine WR.skip rfl rfl rfl rfl ?_))
  refine WR.stp rfl rfl rfl rfl (stp_call rfl (c_NewMap T (pt eb) T' (pt eb') w4)) ?_
  rintro _ w5 ⟨b5, rfl, n5⟩
  have hF : F w5 := (hFd _).2 ⟨((hFd _).1 hF).1.ext' n5.ext, ((hFd _).1 hF).2.1.ext n5.ext, ((hFd _).1 hF).2.2.ext n5.ext⟩
  refine ⟨fun _ => hF, ?_⟩
  (repeat (first
      | refine WR.nilk ?_
      | refine WR.nil ?_
      | refine WR.yld (fun _ h => h) rfl rfl rfl rfl (fun w' hx => by obtain ⟨i1, i2, i3⟩ := (hFd _).1 (hx hF); first | exact zyl | (exact yld_load_cells rfl i3) | exact yld_indexAddr_arr rfl rfl (by omega)) ?_
      | refine WR.skip rfl rfl rfl rfl ?_))
  refine zst ?_
  have m34 := m3.trans m4
  have hge : w2.heap.size ≤ b5 := by have := n5.num; have := m34.sta.size; omega
  have hnone : s''.g b5 = none := m4.bi.fresh (by have := n5.num; omega)
  have hni : ¬ isIf t := by
    rintro (h | h)
    · omega
    · omega
  refine fin1 (.inl rfl) rfl rfl ⟨_, _, ((m34.ext n5.ext).set hge hnone n5.has.lt hni).before x12 |>.le (by omega), .map t e f _ _ b5 hk hel ?_ ?_ (by have := x12.size; omega) n5.has (Gs.set_same ..), _, _, rfl⟩
  · exact (((RT.ext n5.ext (rt3.sta m4.sta (by omega))).le m4.gle.le).le (Gs.gle_set hnone).le).mono fun c _ hc => Nat.le_trans x12.size hc
  · exact ((RT.ext n5.ext rt4).le (Gs.gle_set hnone).le).mono fun c _ hc => by have := x12.size; have := m3.sta.size; omega
end Go.Proofs.YtpiegpegjbmlkaaGreatDoor
namespace Go.Proofs.YtpiegpegjbmlkaaGreatDoor
open Go Go.Kd
set_option maxRecDepth 100000

/-! ### Rows of one cell that the call owns -/
theorem flat1 {α : Type} (f : Nat → α) : ∀ l : List Nat, (l.map fun i => [f i]).flatten = l.map f
  | [] => rfl
  | a :: l => by simp [flat1 f l]
theorem Own.row1 {w : World} {base el n : Nat} {v : Value} {f : Nat → Value} (h : Own w base el 1 v ((List.range n).map fun i => [f i])) : ∃ a cp, v = .slice a n cp ∧ ∀ i, i < n → ∃ g cs, a = some ⟨g, 0, none⟩ ∧ base ≤ g ∧ v.ownBlock = some g ∧ Has w g (.cells cs el) ∧ cs[i]? = some (f i) := by
  have h2 := h.row.2
  rw [List.length_map, List.length_range, flat1] at h2
  rcases h2 with ⟨h1, h2⟩ | ⟨g, cap, cur, h1, h2, h3, h4, h5, h6, h7⟩
  · subst h2
    exact ⟨none, 0, h1, fun i hi => by omega⟩
  · refine ⟨_, cap, h1, fun i hi => ⟨g, cur, rfl, h2, by rw [h1]; rfl, ⟨h3⟩, ?_⟩⟩
    have h8 : (cur.toList.take (n * 1))[i]? = some (f i) := by rw [h7, List.getElem?_map, List.getElem?_range hi]; rfl
    rw [Nat.mul_one, List.getElem?_take_of_lt hi] at h8
    simpa using h8
theorem Own.sta {K : Cfg} {l : Nat} {w w' : World} {base el sz : Nat} {v : Value} {ls : List (List Value)} [hi : Imm el] (x : Sta K l w w') (h : Own w base el sz v ls) : Own w' base el sz v ls := h.kept fun k hk => by
  rcases h.row.2 with ⟨h1, _⟩ | ⟨g, cap, cur, h1, _, h3, _⟩
  · rw [h1] at hk; cases hk
  · rw [h1] at hk
    cases hk
    exact (Has.sta x (⟨h3⟩ : Has w g (.cells cur el (0, 0)))).at_.trans h3.symm
theorem range_snoc {α : Type} (f : Nat → α) (n : Nat) : (List.range n).map f ++ [f n] = (List.range (n + 1)).map f := by
  rw [List.range_succ, List.map_append]; rfl
/-- f, but for place n -/
def put {α : Type} (f : Nat → α) (n : Nat) (x : α) : Nat → α := fun i => if i = n then x else f i
theorem put_same {α : Type} (f : Nat → α) (n : Nat) (x : α) : put f n x n = x := by simp [put]
theorem put_lt {α : Type} (f : Nat → α) {n i : Nat} (x : α) (h : i < n) : put f n x i = f i := by simp [put, Nat.ne_of_lt h]
/-- what is read lies in no row that grows -/
theorem RT.app {K : Cfg} {s : Gs} {w w' : World} {v v' u : Value} {t : Ty} {P : Nat → Prop} (a : App w w' v) (hg : ∀ g, v'.ownBlock = some g → v.ownBlock = some g ∨ g = w.heap.size) (h : RT K s w (fun b => P b ∧ v.ownBlock ≠ some b) u t) : RT K s w' (fun b => P b ∧ v'.ownBlock ≠ some b) u t := by
  have h1 : RT K s w (fun b => (P b ∧ v.ownBlock ≠ some b) ∧ b < w.heap.size) u t := h.mono fun b hb hp => ⟨hp, hb⟩
  have h2 : RT K s w' (fun b => (P b ∧ v.ownBlock ≠ some b) ∧ b < w.heap.size) u t := h1.same fun b hb => a.block b hb.2 fun e => hb.1.2 e.symm
  exact h2.mono fun b _ hb => ⟨hb.1.1, fun e => by
    rcases hg b e with h | h
    · exact hb.1.2 h
    · have := hb.2; omega⟩
theorem RT.kind3 {K : Cfg} {s : Gs} {w : World} {p : Nat → Prop} {v : Value} {t : Ty} (h : RT K s w p v t) (hk : t.kind = 3) : ∃ b, v = .iface tSL (pt b) := by
  cases h <;> first
    | omega
    | exact ⟨_, rfl⟩
abbrev tVR : Nat := 106
/-- types of blocks that the builder's facts speak of -/
def plainEl (el : Nat) : Bool := el != tBU && (el != tPK && (el != tPI && (el != tIF && (el != tTS && (el != tTP && el != tTM)))))
theorem Has.app {w w' : World} {base el sz : Nat} {v : Value} {ls : List (List Value)} (a : App w w' v) (ho : Own w base el sz v ls) {b t : Nat} {cs : Array Value} {fz : Nat × Nat} (h : Has w b (.cells cs t fz)) (ht : t ≠ el) : Has w' b (.cells cs t fz) := App.keep a h (Own.ne ho h ht)
theorem AllT.app {w w' : World} {base el sz : Nat} {v : Value} {ls : List (List Value)} (a : App w w' v) (ho : Own w base el sz v ls) (hel : plainEl el = true) {u : Value} (h : AllT w u) : AllT w' u := by
  simp only [plainEl, Bool.and_eq_true, bne_iff_ne] at hel
  obtain ⟨e1, e2, e3, e4, e5, e6, e7⟩ := hel
  obtain ⟨a', c, tb, h1, h2, h3⟩ := h
  exact ⟨a', c, tb, h1, fun i hi => by
    obtain ⟨b, cs, k1, k2, k3⟩ := h2 i hi
    exact ⟨b, cs, k1, Has.app a ho k2 (Ne.symm e6), k3⟩, Has.app a ho h3 (Ne.symm e7)⟩
theorem Fresh.app {w w' : World} {base el sz : Nat} {v : Value} {ls : List (List Value)} (a : App w w' v) (ho : Own w base el sz v ls) (hel : plainEl el = true) {b : Nat} {t : Ty} (h : Fresh w b t) : Fresh w' b t := by
  have hel' := hel
  simp only [plainEl, Bool.and_eq_true, bne_iff_ne] at hel
  obtain ⟨e1, e2, e3, e4, e5, e6, e7⟩ := hel
  have key : ∀ ts, IfT w b ts → IfT w' b ts := fun ts ⟨ma, mn, mc, ea, en, ec, h⟩ => ⟨ma, mn, mc, ea, en, ec, Has.app a ho h (Ne.symm e4)⟩
  rcases h with h | ⟨⟨tb, u, h1, h2, h3⟩, h4⟩
  · exact .inl (key _ h)
  · exact .inr ⟨⟨tb, u, key _ h1, Has.app a ho h2 (Ne.symm e5), h3.app a ho hel'⟩, h4⟩
theorem Made.app {K : Cfg} {s1 s2 : Gs} {w1 w2 w3 : World} {bb : Nat} {made n1 : List Nat} {m : Nat} {base el sz : Nat} {v : Value} {ls : List (List Value)} (h : Made K s1 w1 bb made m s2 n1 w2) (a : App w2 w3 v) (ho : Own w2 base el sz v ls) (hb : w1.heap.size ≤ base)
    (hel : plainEl el = true) (hnb : K.nb < w1.heap.size) (hsl : ∀ d, s2.sl d → v.ownBlock ≠ some d) : Made K s1 w1 bb made m s2 n1 w3 := by
  have hel' := hel
  simp only [plainEl, Bool.and_eq_true, bne_iff_ne] at hel
  obtain ⟨e1, e2, e3, e4, e5, e6, e7⟩ := hel
  refine ⟨h.gle, h.sta.app_new a ho hb, h.bi.keep a.size (fun d cs t hd ht => ?_) fun _ _ hr => hr.same fun d hd => a.block d (h.bi.sll d hd) fun e => hsl d hd e.symm, h.len, fun b u hu => ?_, fun d hd => (h.sn d hd).imp id fun h => ⟨h.1, Nat.lt_of_lt_of_le h.2 a.size⟩⟩
  · have hd' : Has w2 d (.cells cs t (0, 0)) := ⟨hd⟩
    rcases ht with rfl | ⟨rfl, rfl⟩ | rfl | rfl
    · exact (Has.app a ho hd' (Ne.symm e1)).at_.trans hd.symm
    · refine a.block _ hd'.lt fun e => ?_
      have := (ho.lt _ e.symm).1
      omega
    · exact (Has.app a ho hd' (Ne.symm e2)).at_.trans hd.symm
    · exact (Has.app a ho hd' (Ne.symm e3)).at_.trans hd.symm
  · rcases h.gn b u hu with k | ⟨k1, k2, k3⟩
    · exact .inl k
    · exact .inr ⟨k1, Nat.lt_of_lt_of_le k2 a.size, fun hi => ⟨(k3 hi).1, (k3 hi).2.app a ho hel'⟩⟩

/-- what two rows that grow are: the objects' type and cells, the rows' element types, what the second row holds, how many elements have an object -/
structure RowK where
  ty : Nat
  cf : Ty → Value → Array Value
  el1 : Nat
  el2 : Nat
  g2 : (Nat → Nat) → (Nat → Value) → Nat → Value
  cN : Nat
  h1 : plainEl el1 = true
  h2 : plainEl el2 = true
  t1 : ty ≠ el1
  t2 : ty ≠ el2
  tb : ty ≠ tBU ∧ ty ≠ tPI
/-- how far the elements l are made: k of them, of which n1 and n2 lie in the rows; w: the world at the beginning -/
structure GI (R : RowK) (K : Cfg) (s : Gs) (w : World) (bb : Nat) (made : List Nat) (l : List Ty) (k n1 n2 : Nat) (vp vr : Value) (s' : Gs) (new : List Nat) (vb : Nat → Nat) (vv : Nat → Value) (wk : World) : Prop where
  m : Made K s w bb made (wts (l.take k)) s' new wk
  op : Own wk w.heap.size R.el1 1 vp ((List.range n1).map fun i => [pt (vb i)])
  or : Own wk w.heap.size R.el2 1 vr ((List.range n2).map fun i => [R.g2 vb vv i])
  ne : ∀ g, vp.ownBlock = some g → vr.ownBlock ≠ some g
  rt : ∀ (i : Nat) e, i < k → l[i]? = some e → RT K s' wk (fun b => w.heap.size ≤ b ∧ vp.ownBlock ≠ some b ∧ vr.ownBlock ≠ some b) (vv i) e
  var : ∀ (i : Nat) e, i < k → i < R.cN → l[i]? = some e → w.heap.size ≤ vb i ∧ Has wk (vb i) (.cells (R.cf e (vv i)) R.ty)
  lt1 : n1 ≤ k
  so : ∀ d, s'.sl d → vp.ownBlock ≠ some d ∧ vr.ownBlock ≠ some d
theorem take_wts {l : List Ty} {k : Nat} {e : Ty} (h : l[k]? = some e) : wts (l.take k) + wt e = wts (l.take (k + 1)) := by
  have hlt := (List.getElem?_eq_some_iff.1 h).1
  have h2 : l.take (k + 1) = l.take k ++ [e] := by rw [List.take_add_one, h]; rfl
  have h3 : ∀ a : List Ty, wts (a ++ [e]) = wts a + wt e := by
    intro a
    induction a with
    | nil => simp [wts]
    | cons x r ih => simp only [List.cons_append, wts, ih]; omega
  rw [h2, h3]
theorem take_le {l : List Ty} (k : Nat) : wts (l.take k) ≤ wts l := by
  induction l generalizing k with
  | nil => simp
  | cons a r ih => cases k with
    | zero => simp [wts]
    | succ k => simp only [List.take_succ_cons, wts]; have := ih k; omega
theorem Own.ltE {w : World} {base el sz : Nat} {v : Value} {ls : List (List Value)} (h : Own w base el sz v ls) {b : Nat} (hb : w.heap.size ≤ b) : v.ownBlock ≠ some b := fun e => by have := (h.lt b e).2; omega
theorem Own.sta0 {K : Cfg} {w w' : World} {base el sz : Nat} {v : Value} {ls : List (List Value)} (x : Sta K 0 w w') (hel : plainEl el = true) (h : Own w base el sz v ls) : Own w' base el sz v ls := h.kept fun k hk => by
  simp only [plainEl, Bool.and_eq_true, bne_iff_ne] at hel
  rcases h.row.2 with ⟨h1, _⟩ | ⟨g, cap, cur, h1, _, h3, _⟩
  · rw [h1] at hk; cases hk
  · rw [h1] at hk
    cases hk
    exact (Has.sta0 x hel.1 hel.2.2.1 (⟨h3⟩ : Has w g (.cells cur el (0, 0)))).at_.trans h3.symm
theorem GI.next0 {R : RowK} {K : Cfg} {s s' s2 : Gs} {w wk w1 w2 : World} {bb : Nat} {made new new2 : List Nat} {l : List Ty} {e : Ty} {k n1 n2 : Nat} {vp vr r : Value} {vb : Nat → Nat} {vv : Nat → Value} (h : GI R K s w bb made l k n1 n2 vp vr s' new vb vv wk) (he : l[k]? = some e)
    (x : Ext wk w1) {mm : Nat} (hmm : mm ≤ wt e) (m : Made K s' w1 bb (made ++ new) mm s2 new2 w2) (rt : RT K s2 w2 (fun b => w1.heap.size ≤ b) r e) (hg : ∀ i, i < n2 → R.g2 vb (put vv k r) i = R.g2 vb vv i) (hc : R.cN ≤ k) :
    GI R K s w bb made l (k + 1) n1 n2 vp vr s2 (new ++ new2) vb (put vv k r) w2 := by
  have hs1 := h.m.sta.size
  have hs2 := x.size
  have hs3 := m.sta.size
  have op1 := h.op.ext x
  have or1 := h.or.ext x
  refine ⟨?_, Own.sta0 m.sta R.h1 op1, ?_, h.ne, fun i e' hi he' => ?_, fun i e' hi hic he' => ?_, by have := h.lt1; omega, fun d hd => (m.sn d hd).elim (h.so d) fun k => ⟨Own.ltE op1 k.1, Own.ltE or1 k.1⟩⟩
  · rw [← take_wts he]
    exact (h.m.ext x).trans (m.le hmm)
  · have := Own.sta0 m.sta R.h2 or1
    have hm : ((List.range n2).map fun i => [R.g2 vb (put vv k r) i]) = (List.range n2).map fun i => [R.g2 vb vv i] := List.map_congr_left fun i hi => by
      rw [hg i (List.mem_range.1 hi)]
    rw [hm]; exact this
  · by_cases hik : i = k
    · subst hik
      rw [he] at he'
      cases he'
      rw [put_same]
      exact rt.mono fun d _ hd => ⟨by omega, Own.ltE op1 hd, Own.ltE or1 hd⟩
    · rw [put_lt vv r (by omega)]
      exact ((RT.ext x (h.rt i e' (by omega) he')).sta m.sta (by omega) |>.le m.gle.le)
  · rw [put_lt vv r (by omega)]
    obtain ⟨k1, k2⟩ := h.var i e' (by omega) hic he'
    exact ⟨k1, Has.sta0 m.sta R.tb.1 R.tb.2 (k2.ext' x)⟩
/-- one more element, with an object -/
theorem GI.next {R : RowK} {K : Cfg} {s s' s2 : Gs} {w wk w1 w2 w3 : World} {bb : Nat} {made new new2 : List Nat} {l : List Ty} {e : Ty} {k n1 n2 : Nat} {vp vr r : Value} {vb : Nat → Nat} {vv : Nat → Value} {b : Nat} (h : GI R K s w bb made l k n1 n2 vp vr s' new vb vv wk) (he : l[k]? = some e)
    (x : Ext wk w1) {mm : Nat} (hmm : mm ≤ wt e) (m : Made K s' w1 bb (made ++ new) mm s2 new2 w2) (rt : RT K s2 w2 (fun b => w1.heap.size ≤ b) r e) (nv : New w2 b (.cells (R.cf e r) R.ty) w3) (hg : ∀ i, i < n2 → R.g2 (put vb k b) (put vv k r) i = R.g2 vb vv i) :
    GI R K s w bb made l (k + 1) n1 n2 vp vr s2 (new ++ new2) (put vb k b) (put vv k r) w3 := by
  have hs1 := h.m.sta.size
  have hs2 := x.size
  have hs3 := m.sta.size
  have hbn := nv.num
  have op1 := h.op.ext x
  have or1 := h.or.ext x
  refine ⟨?_, ?_, ?_, h.ne, fun i e' hi he' => ?_, fun i e' hi hic he' => ?_, by have := h.lt1; omega, fun d hd => (m.sn d hd).elim (h.so d) fun k => ⟨Own.ltE op1 k.1, Own.ltE or1 k.1⟩⟩
  · rw [← take_wts he]
    exact ((h.m.ext x).trans (m.le hmm)).ext nv.ext
  · have := (Own.sta0 m.sta R.h1 op1).ext nv.ext
    have hm : ((List.range n1).map fun i => [pt (put vb k b i)]) = (List.range n1).map fun i => [pt (vb i)] := List.map_congr_left fun i hi => by
      rw [put_lt vb b (Nat.lt_of_lt_of_le (List.mem_range.1 hi) h.lt1)]
    rw [hm]; exact this
  · have := (Own.sta0 m.sta R.h2 or1).ext nv.ext
    have hm : ((List.range n2).map fun i => [R.g2 (put vb k b) (put vv k r) i]) = (List.range n2).map fun i => [R.g2 vb vv i] := List.map_congr_left fun i hi => by
      rw [hg i (List.mem_range.1 hi)]
    rw [hm]; exact this
  · by_cases hik : i = k
    · subst hik
      rw [he] at he'
      cases he'
      rw [put_same]
      exact (RT.ext nv.ext rt).mono fun d _ hd => ⟨by omega, Own.ltE op1 hd, Own.ltE or1 hd⟩
    · rw [put_lt vv r (by omega)]
      exact RT.ext nv.ext ((RT.ext x (h.rt i e' (by omega) he')).sta m.sta (by omega) |>.le m.gle.le)
  · by_cases hik : i = k
    · subst hik
      rw [he] at he'
      cases he'
      rw [put_same, put_same]
      exact ⟨by omega, nv.has⟩
    · rw [put_lt vv r (by omega), put_lt vb b (by omega)]
      obtain ⟨k1, k2⟩ := h.var i e' (by omega) hic he'
      exact ⟨k1, Has.ext' nv.ext (Has.sta0 m.sta R.tb.1 R.tb.2 (k2.ext' x))⟩
theorem GI.ext {R : RowK} {K : Cfg} {s s' : Gs} {w wk w2 : World} {bb : Nat} {made new : List Nat} {l : List Ty} {k n1 n2 : Nat} {vp vr : Value} {vb : Nat → Nat} {vv : Nat → Value} (h : GI R K s w bb made l k n1 n2 vp vr s' new vb vv wk) (x : Ext wk w2) :
    GI R K s w bb made l k n1 n2 vp vr s' new vb vv w2 :=
  ⟨h.m.ext x, h.op.ext x, h.or.ext x, h.ne, fun i e hi he => RT.ext x (h.rt i e hi he), fun i e hi hc he => ⟨(h.var i e hi hc he).1, Has.ext' x (h.var i e hi hc he).2⟩, h.lt1, h.so⟩
/-- appending to the first row -/
theorem GI.app1 {R : RowK} {K : Cfg} {s s' : Gs} {w wk w2 : World} {bb : Nat} {made new : List Nat} {l : List Ty} {k n1 n2 : Nat} {vp vp' vr : Value} {vb : Nat → Nat} {vv : Nat → Value} (h : GI R K s w bb made l k n1 n2 vp vr s' new vb vv wk) (a : App wk w2 vp)
    (o : Own w2 w.heap.size R.el1 1 vp' (((List.range n1).map fun i => [pt (vb i)]) ++ [[pt (vb n1)]])) (hg : ∀ g, vp'.ownBlock = some g → vp.ownBlock = some g ∨ g = wk.heap.size) (hn : n1 < k) (hnb : K.nb < w.heap.size) :
    GI R K s w bb made l k (n1 + 1) n2 vp' vr s' new vb vv w2 := by
  have hro := h.or
  refine ⟨h.m.app a h.op (Nat.le_refl _) R.h1 hnb (fun d hd => (h.so d hd).1), by rw [← range_snoc]; exact o, hro.kept fun g hgr => a.block g (hro.lt g hgr).2 fun e => h.ne g e.symm hgr, fun g hg' e => ?_, fun i e hi he => ?_, fun i e hi hc he => ?_, hn, fun d hd => ⟨fun e => (hg d e).elim (h.so d hd).1 fun k => by have := h.m.bi.sll d hd; omega, (h.so d hd).2⟩⟩
  · rcases hg g hg' with h1 | h1
    · exact h.ne g h1 e
    · exact Own.ltE hro (Nat.le_of_eq h1.symm) e
  · have h1 : RT K s' wk (fun b => (w.heap.size ≤ b ∧ vr.ownBlock ≠ some b) ∧ vp.ownBlock ≠ some b) (vv i) e := (h.rt i e hi he).mono fun b _ hb => ⟨⟨hb.1, hb.2.2⟩, hb.2.1⟩
    exact (h1.app a hg).mono fun b _ hb => ⟨hb.1.1, hb.2, hb.1.2⟩
  · obtain ⟨k1, k2⟩ := h.var i e hi hc he
    exact ⟨k1, Has.app a h.op k2 R.t1⟩
/-- appending to the second row -/
theorem GI.app2 {R : RowK} {K : Cfg} {s s' : Gs} {w wk w2 : World} {bb : Nat} {made new : List Nat} {l : List Ty} {k n1 n2 : Nat} {vp vr vr' : Value} {vb : Nat → Nat} {vv : Nat → Value} (h : GI R K s w bb made l k n1 n2 vp vr s' new vb vv wk) (a : App wk w2 vr)
    (o : Own w2 w.heap.size R.el2 1 vr' (((List.range n2).map fun i => [R.g2 vb vv i]) ++ [[R.g2 vb vv n2]])) (hg : ∀ g, vr'.ownBlock = some g → vr.ownBlock = some g ∨ g = wk.heap.size) (hnb : K.nb < w.heap.size) :
    GI R K s w bb made l k n1 (n2 + 1) vp vr' s' new vb vv w2 := by
  have hpo := h.op
  refine ⟨h.m.app a h.or (Nat.le_refl _) R.h2 hnb (fun d hd => (h.so d hd).2), hpo.kept fun g hgr => a.block g (hpo.lt g hgr).2 fun e => h.ne g hgr e.symm, by rw [← range_snoc (fun i => [R.g2 vb vv i])]; exact o, fun g hg' e => ?_, fun i e hi he => ?_, fun i e hi hc he => ?_, h.lt1, fun d hd => ⟨(h.so d hd).1, fun e => (hg d e).elim (h.so d hd).2 fun k => by have := h.m.bi.sll d hd; omega⟩⟩
  · rcases hg g e with h1 | h1
    · exact h.ne g hg' h1
    · exact Own.ltE hpo (Nat.le_of_eq h1.symm) hg'
  · have h1 : RT K s' wk (fun b => (w.heap.size ≤ b ∧ vp.ownBlock ≠ some b) ∧ vr.ownBlock ≠ some b) (vv i) e := (h.rt i e hi he).mono fun b _ hb => ⟨⟨hb.1, hb.2.1⟩, hb.2.2⟩
    exact (h1.app a hg).mono fun b _ hb => ⟨hb.1.1, hb.1.2, hb.2⟩
  · obtain ⟨k1, k2⟩ := h.var i e hi hc he
    exact ⟨k1, Has.app a h.or k2 R.t2⟩
theorem GI.nil (R : RowK) {K : Cfg} {s : Gs} {w : World} {bb : Nat} {made : List Nat} (l : List Ty) (h : BI K s w bb made) (vb : Nat → Nat) (vv : Nat → Value) : GI R K s w bb made l 0 0 0 (.slice none 0 0) (.slice none 0 0) s [] vb vv w :=
  ⟨(Made.rfl' h (Ext.rfl' w)).le (Nat.zero_le _), by simpa using Own.nil w w.heap.size R.el1 1, by simpa using Own.nil w w.heap.size R.el2 1, fun g hg => (by cases hg), fun i e hi => (by omega), fun i e hi => (by omega), Nat.le_refl _, fun d _ => ⟨fun e => (by cases e), fun e => (by cases e)⟩⟩
end Go.Proofs.YtpiegpegjbmlkaaGreatDoor
namespace Go.Proofs.YtpiegpegjbmlkaaGreatDoor
open Go Go.Kd
set_option maxRecDepth 100000

theorem c_NewTuple' (a : Option Addr) (n c : Nat) (w : World) : Calls Tryz.prog 108 #[.slice a n c] w (Ret fun r w' => ∃ q : Option Addr, r = .pointer q ∧ Ext w w' ∧ ((q = none ∧ n = 0) ∨ ∃ b, q = some ⟨b, 0, none⟩ ∧ 0 < n ∧ w.heap.size ≤ b ∧ Has w' b (.cells #[.slice a n c] 220))) :=
  (c_NewTuple a n c w).mono fun e w' ⟨v, he, h⟩ => ⟨v, he, by
    rcases h with ⟨h1, h2, h3⟩ | ⟨b, h1, h2, h3⟩
    · exact ⟨none, h2, h3 ▸ Ext.rfl' w, .inl ⟨rfl, h1⟩⟩
    · exact ⟨_, h2, h3.ext, .inr ⟨b, rfl, h1, Nat.le_of_eq h3.num.symm, h3.has⟩⟩⟩
theorem c_NewSig (rv ps rs : Option Addr) (vr : Bool) (w : World) (hl : vr = true → LastSl w (.pointer ps)) :
    Calls Tryz.prog 128 #[.pointer rv, .slice none 0 0, .slice none 0 0, .pointer ps, .pointer rs, .bool vr] w (Ret fun r w' => ∃ b, r = pt b ∧ w.heap.size ≤ b ∧ Has w' b (.cells #[.pointer rv, .pointer none, .pointer ps, .pointer rs, .bool vr] tSG) ∧ Ext w w') := by
  cases vr
  · exact c_NewSignatureType0 rv ps rs w
  · exact c_NewSignatureType1 rv ps rs w (hl rfl)
/-- parameters and results -/
def rkS (pv : Value) (c cN : Nat) : RowK := ⟨tVR, fun e v => #[.int .i64 0, pv, .string e.name, v, .int .u8 4, .bool false], tVA, tVA, fun vb _ i => pt (vb (c + i)), cN, rfl, rfl, by decide, by decide, by decide, by decide⟩
/-- a function type is made; rv: its receiver -/
def SigR (K : Cfg) (s : Gs) (w : World) (bb : Nat) (made : List Nat) (t : Ty) (rv : Option Addr) (r : Value) (w' : World) : Prop :=
  ∃ b ps rs s' new, r = pt b ∧ Made K s w bb made (wts t.elems) s' new w' ∧ RT K s' w' (fun b => w.heap.size ≤ b) (.iface tSP (pt b)) t ∧ w.heap.size ≤ b ∧ Has w' b (.cells #[.pointer rv, .pointer none, .pointer ps, .pointer rs, .bool t.vr] tSG)
set_option maxHeartbeats 4000000 in
theorem c_signature (D : List De) (K : Cfg) (i : Nat) (t : Ty) (hk : t.kind = 8) (ih : ∀ (j : Nat) e, t.elems[j]? = some e → TypC D K i e) (s : Gs) (w : World) (bb : Nat) (made : List Nat) (p : Nat → Prop) (cs : List Value) (rv : Option Addr)
    (hx : Ctx D K i s w bb made) (ha : Ask D i w K p cs t) (hb : wt t + made.length ≤ Big) :
    Calls Tryz.prog 85 #[pt bb, .pointer rv, .agg cs.toArray] w (Ret (SigR K s w bb made t rv)) := by
  replace hb : wt t + made.length ≤ 268435456 := hb
  obtain ⟨a, cp, rfl, hv⟩ := ha.open
  obtain ⟨v, hs⟩ := ha.sh
  have hc0 := hs.shape.c0 (.inl hk)
  have hc1 := hs.shape.c1 (.inl hk)
  obtain ⟨c, hc⟩ := Int.eq_ofNat_of_zero_le hc0
  have hcl : c ≤ t.elems.length := by omega
  have hwt := wt_eq t
  have hlen := wts_len t.elems
  obtain ⟨na, nl, nc, vm, hbb, how, hnm⟩ := hx.bi.ex
  obtain ⟨pc, px, hpc, _⟩ := hx.bi.pkg 0 (.inl rfl)
  rw [hpc] at hbb
  refine W.enter (args := [pt bb, .pointer rv, .agg (tyl t.kind t.n t.count t.vr (.slice a t.elems.length cp) t.name t.tag t.emb).toArray]) Tryz.func85 rfl Tryz.ntmps85 rfl rfl ?_
  refine zst ?_
  refine WU.stp rfl rfl rfl (by first | exact stp_box rfl rfl | exact stp_box1 rfl rfl) ?_
  rintro _ w1 ⟨b1, rfl, n1⟩
  have ib1 := n1.has
  refine zst ?_
  have hnb1 : K.nb < w1.heap.size := Nat.lt_of_lt_of_le hx.bi.nbL n1.ext.size
  refine W.loop (σ := Nat × Value × Value) (fun (k, vp, vr) => [(15, .int .i64 k), (14, .int .i64 t.elems.length), (13, .slice a t.elems.length cp), (7, vp), (8, vr), (5, pt b1), (0, pt bb), (1, .pointer rv)])
    (fun (k, vp, vr) D' wk => D' = [] ∧ k ≤ t.elems.length ∧ Has wk b1 (.cells (tyl t.kind t.n t.count t.vr (.slice a t.elems.length cp) t.name t.tag t.emb).toArray 26) ∧ ∃ s' new vb vv, GI (rkS (pt pc) c t.elems.length) K s w1 bb made t.elems k (min k c) (k - c) vp vr s' new vb vv wk)
    (fun (k, _, _) => t.elems.length - k) (0, .slice none 0 0, .slice none 0 0)
    ⟨rfl, Nat.zero_le _, ib1, s, [], fun _ => 0, fun _ => .nilIface, by simpa using GI.nil _ _ (hx.bi.ext n1.ext) _ _⟩
    (by exact sub_of ⟨rfl, rfl, rfl, rfl, rfl, rfl, rfl, rfl, trivial⟩) ?_
  rintro ⟨k, vp, vr⟩ D' wk ⟨rfl, hkl, ibk, s', new, vb, vv, hI⟩
  refine zst ?_
  by_cases hlt : k < t.elems.length
  · rw [show decide ((k : Int) < (t.elems.length : Int)) = true by simpa using hlt]
    have he := List.getElem?_eq_getElem hlt
    generalize t.elems[k] = e at he
    obtain ⟨b, o, a3, c3, rfl, hpb, hcc, hae⟩ := ha.el hv he
    have hm := hI.m
    have xk : Sta K 0 w wk := (Sta.of_ext n1.ext).trans hm.sta
    have hck : Cells wk b (o + k * 8) (tyc e a3 c3) := Cells.sameB (xk.old b (ha.p b hpb).1 (ha.p b hpb).2) hcc
    have hwe := take_wts he
    have hwl := take_le (l := t.elems) (k + 1)
    have hln := hm.len
    refine zst ?_
    refine WU.yld rfl rfl rfl (yld_load_cells rfl hck) ?_
    refine WU.stp rfl rfl rfl stp_alloc ?_
    rintro _ w2 ⟨b2, rfl, n2⟩
    refine zst ?_
    refine WU.stp0 rfl rfl (stp_store_whole rfl rfl rfl rfl) ?_
    rintro _ w3 u3
    have x3 : Ext wk w3 := (u3.ofNew n2).ext
    have ib3 := ibk.ext' x3
    have ie3 := u3.has
    obtain ⟨vm3, hbb3⟩ := Has.staB (xk.ext x3) hbb
    obtain ⟨F, hFd⟩ : ∃ F : World → Prop, ∀ W, F W ↔ (Has W b2 (.cells (tyc e a3 c3).toArray 26) ∧ ∃ u, Has W bb (.cells #[pt pc, s.pk 1, .slice na nl nc, s.er, u] tBU)) := ⟨fun W => (Has W b2 (.cells (tyc e a3 c3).toArray 26) ∧ ∃ u, Has W bb (.cells #[pt pc, s.pk 1, .slice na nl nc, s.er, u] tBU)), fun _ => Iff.rfl⟩
    refine zst ?_
    refine W.regR (R := fun a b => F a → F b) (fun _ h => h) (fun _ _ _ h k x => k (h x)) [(0, .q), (1, .q), (2, .q), (3, .q), (4, .q), (5, .q), (6, .q), (7, .q), (8, .q), (9, .l), (10, .l), (11, .q)] (by kernel_rfl) (by kernel_rfl) rfl ?_
    intro w4 x4 _
    have hF : F w4 := (hFd _).2 ⟨ie3.ext' x4, vm3, hbb3.ext' x4⟩
    have x34 := x3.trans x4
    (repeat (first
        | refine WR.nilk ?_
        | refine WR.nil ?_
        | refine WR.yld (fun _ h => h) rfl rfl rfl rfl (fun w' hx => by obtain ⟨i1, u, i2⟩ := (hFd _).1 (hx hF); first | exact zyl | (exact yld_indexAddr_arr (i := 0) rfl rfl (by omega)) | exact yld_indexAddr_arr rfl rfl (by omega)) ?_
        | refine WR.skip rfl rfl rfl rfl ?_))
    have hx4 : Ctx D K i s' w4 bb (made ++ new) := ((hx.ext n1.ext).made hm).ext x34
    refine WR.stp rfl rfl rfl rfl (stp_call rfl (ih k e he s' w4 bb (made ++ new) p _ hx4 ((hae.sta xk).ext x34) (by rw [List.length_append]; show _ ≤ 268435456; omega))) ?_
    rintro r w5 ⟨s2, new2, m5, rt5, T, eb, rfl⟩
    have hF : F w5 := by
      obtain ⟨i1, u, i2⟩ := (hFd _).1 hF
      exact (hFd _).2 ⟨Has.sta m5.sta i1, Has.staB m5.sta i2⟩
    refine ⟨fun _ => hF, ?_⟩
    (repeat (first
        | refine WR.nilk ?_
        | refine WR.nil ?_
        | refine WR.yld (fun _ h => h) rfl rfl rfl rfl (fun w' hx => by obtain ⟨i1, u, i2⟩ := (hFd _).1 (hx hF); first | exact zyl | (exact yld_indexAddr_arr (i := 0) rfl rfl (by omega)) | exact yld_indexAddr_arr rfl rfl (by omega)) ?_
        | refine WR.skip rfl rfl rfl rfl ?_))
    refine WR.stp rfl rfl rfl rfl (stp_call rfl (c_NewParam 0 (some ⟨pc, 0, none⟩) e.name T (pt eb) w5)) ?_
    rintro _ w6 ⟨b6, rfl, n6⟩
    have hF : F w6 := by
      obtain ⟨i1, u, i2⟩ := (hFd _).1 hF
      exact (hFd _).2 ⟨i1.ext' n6.ext, u, i2.ext' n6.ext⟩
    refine ⟨fun _ => hF, ?_⟩
    (repeat (first
        | refine WR.nilk ?_
        | refine WR.nil ?_
        | refine WR.yld (fun _ h => h) rfl rfl rfl rfl (fun w' hx => by obtain ⟨i1, u, i2⟩ := (hFd _).1 (hx hF); first | exact zyl | (exact yld_indexAddr_arr (i := 0) rfl rfl (by omega)) | exact yld_indexAddr_arr rfl rfl (by omega)) ?_
        | refine WR.skip rfl rfl rfl rfl ?_))
    have hI6 := hI.next he x34 (Nat.le_refl _) m5 rt5 n6 (fun i hi => congrArg pt (put_lt vb b6 (by omega)))
    have ib6 : Has w6 b1 (.cells (tyl t.kind t.n t.count t.vr (.slice (some ⟨b, o, none⟩) t.elems.length cp) t.name t.tag t.emb).toArray 26) := (Has.sta m5.sta (ib3.ext' x4)).ext' n6.ext
    rw [hc] at ib6
    refine zst ?_
    by_cases hkc : k < c
    · rw [show decide ((k : Int) < (c : Int)) = true by simpa using hkc]
      refine zst ?_
      refine WU.stp rfl rfl rfl (stp_buildSlice rfl rfl rfl rfl rfl) ?_
      rintro _ w7 ⟨b7, rfl, n7⟩
      have hI7 := hI6.ext n7.ext
      refine WU.stp rfl rfl rfl (stp_append1 (el := tVA) rfl rfl hI7.op (Cells.has n7.has) rfl rfl (by omega) (by simp [Value.oneCell']) (by rw [List.length_map, List.length_range]; omega) (Nat.le_trans hI7.m.sta.size (Nat.le_refl _))) ?_
      rintro v' w8 ⟨o8, a8, g8⟩
      have hI8 := hI7.app1 a8 (by rw [show min k c = k from Nat.min_eq_left (Nat.le_of_lt hkc)] at o8 ⊢; rw [put_same]; exact o8) g8 (by omega) hnb1
      have ib8 := Has.app (el := tVA) a8 hI7.op (ib6.ext' n7.ext) (by decide)
      refine zst ?_
      refine ⟨(k + 1, v', vr), by show t.elems.length - (k + 1) < t.elems.length - k; omega, ⟨rfl, by omega, by rw [hc]; exact ib8, s2, new ++ new2, put vb k b6, put vv k (.iface T (pt eb)), ?_⟩, sub_of ⟨rfl, rfl, rfl, rfl, rfl, rfl, rfl, rfl, trivial⟩⟩
      rw [show min (k + 1) c = min k c + 1 from by omega, show k + 1 - c = k - c from by omega]
      exact hI8
    · rw [show decide ((k : Int) < (c : Int)) = false by simpa using hkc]
      refine zst ?_
      refine WU.stp rfl rfl rfl (stp_buildSlice rfl rfl rfl rfl rfl) ?_
      rintro _ w7 ⟨b7, rfl, n7⟩
      have hI7 := hI6.ext n7.ext
      refine WU.stp rfl rfl rfl (stp_append1 (el := tVA) rfl rfl hI7.or (Cells.has n7.has) rfl rfl (by omega) (by simp [Value.oneCell']) (by rw [List.length_map, List.length_range]; omega) (Nat.le_trans hI7.m.sta.size (Nat.le_refl _))) ?_
      rintro v' w8 ⟨o8, a8, g8⟩
      have hI8 := hI7.app2 a8 (by show Own _ _ _ _ _ (_ ++ [[pt (put vb k b6 (c + (k - c)))]]); rw [show c + (k - c) = k from by omega, put_same]; exact o8) g8 hnb1
      have ib8 := Has.app (el := tVA) a8 hI7.or (ib6.ext' n7.ext) (by decide)
      refine zst ?_
      refine ⟨(k + 1, vp, v'), by show t.elems.length - (k + 1) < t.elems.length - k; omega, ⟨rfl, by omega, by rw [hc]; exact ib8, s2, new ++ new2, put vb k b6, put vv k (.iface T (pt eb)), ?_⟩, sub_of ⟨rfl, rfl, rfl, rfl, rfl, rfl, rfl, rfl, trivial⟩⟩
      rw [show min (k + 1) c = min k c from by omega, show k + 1 - c = k - c + 1 from by omega]
      exact hI8
  · rw [show decide ((k : Int) < (t.elems.length : Int)) = false by simpa using hlt]
    have hkl' : k = t.elems.length := by omega
    subst hkl'
    rw [Nat.min_eq_right hcl] at hI
    obtain ⟨a1, c1, rfl, hr1⟩ := Own.row1 hI.op
    obtain ⟨a2, c2, rfl, hr2⟩ := Own.row1 hI.or
    refine zst ?_
    refine W.regD [(0, .q), (1, .q), (3, .q), (5, .q), (6, .q), (2, .l), (4, .l), (7, .l), (8, .q)] (by kernel_rfl) (by kernel_rfl) rfl ?_
    intro w2 x2 _
    have ib2 := ibk.ext' x2
    refine zsd ?_
    refine WD.stp rfl rfl rfl rfl (stp_call rfl (c_NewTuple' a1 c c1 w2)) ?_
    rintro _ w3 ⟨q1, rfl, x3, ht1⟩
    refine ⟨by first | assumption | exact Ext.rfl' _ | infer_instance, ?_⟩
    have ib3 := ib2.ext' x3
    refine zsd ?_
    refine WD.stp rfl rfl rfl rfl (stp_call rfl (c_NewTuple' a2 (t.elems.length - c) c2 w3)) ?_
    rintro _ w4 ⟨q2, rfl, x4, ht2⟩
    refine ⟨by first | assumption | exact Ext.rfl' _ | infer_instance, ?_⟩
    have ib4 := ib3.ext' x4
    refine zsd ?_
    have x24 := (x2.trans x3).trans x4
    have hI4 := hI.ext x24
    have row1 : ∀ i, i < c → ∃ g cs', a1 = some ⟨g, 0, none⟩ ∧ w1.heap.size ≤ g ∧ Has w4 g (.cells cs' tVA) ∧ cs'[i]? = some (pt (vb i)) := fun i hi => by
      obtain ⟨g, cs', k1, k2, _, k3, k4⟩ := hr1 i hi
      exact ⟨g, cs', k1, k2, k3.ext' x24, k4⟩
    have row2 : ∀ i, i < t.elems.length - c → ∃ g cs', a2 = some ⟨g, 0, none⟩ ∧ w1.heap.size ≤ g ∧ Has w4 g (.cells cs' tVA) ∧ cs'[i]? = some (pt (vb (c + i))) := fun i hi => by
      obtain ⟨g, cs', k1, k2, _, k3, k4⟩ := hr2 i hi
      exact ⟨g, cs', k1, k2, k3.ext' x24, k4⟩
    have hvar := fun (i : Nat) e (hi : i < t.elems.length) he => hI4.var i e hi hi he
    have hlast : t.vr = true → LastSl w4 (.pointer q1) := fun hvr => by
      obtain ⟨e, h0, h1, h2⟩ := hs.shape.vr hk hvr
      have hc1' : c ≠ 0 := fun e => h0 (by rw [hc, e]; rfl)
      have h1' : t.elems[c - 1]? = some e := by rw [← h1]; congr 1; omega
      rcases ht1 with ⟨_, h⟩ | ⟨tb, rfl, hpos, _, htb⟩
      · omega
      · obtain ⟨sb, hsb⟩ := (hI4.rt (c - 1) e (by omega) h1').kind3 h2
        obtain ⟨_, hv1⟩ := hI4.var (c - 1) e (by omega) (show c - 1 < t.elems.length by omega) h1'
        rw [hsb] at hv1
        exact ⟨tb, a1, c, c1, vb, sb, _, _, _, rfl, hpos, htb.ext' x4, fun i hi => by
          obtain ⟨g, cs', k1, _, k3, k4⟩ := row1 i hi
          exact ⟨g, cs', k1, k3, k4⟩, hv1, by omega⟩
    refine WD.stp rfl rfl rfl rfl (stp_call rfl (c_NewSig rv q1 q2 t.vr w4 hlast)) ?_
    rintro _ w5 ⟨b5, rfl, hb5, hh5, x5⟩
    refine ⟨by first | assumption | exact Ext.rfl' _ | infer_instance, ?_⟩
    refine zsd ?_
    refine zst ?_
    have hI5 := hI4.ext x5
    have hge5 : w1.heap.size ≤ b5 := by have := hI4.m.sta.size; omega
    have hnone : s'.g b5 = none := hI4.m.bi.fresh hb5
    have hni : ¬ isIf t := by
      rintro (h | h)
      · omega
      · omega
    have hsz1 := n1.ext.size
    have hm5 := hI5.m
    rw [List.take_length] at hm5
    refine fin1 (.inl rfl) rfl rfl ⟨b5, q1, q2, s'.set b5 t, new, rfl, (hm5.set hge5 hnone hh5.lt hni).before n1.ext, .func t b5 (.pointer q1) (.pointer q2) vb vv hk (fun i e he => ?_) (fun i e he => ?_) (by omega) ⟨_, hh5⟩ ?_ ?_ (Gs.set_same ..), by omega, hh5⟩
    · exact ((hI5.rt i e (List.getElem?_eq_some_iff.1 he).1 he).le (Gs.gle_set hnone).le).mono fun d _ hd => by omega
    · obtain ⟨k1, k2⟩ := hI5.var i e (List.getElem?_eq_some_iff.1 he).1 (List.getElem?_eq_some_iff.1 he).1 he
      exact ⟨_, _, by omega, k2⟩
    · rcases ht1 with ⟨rfl, h⟩ | ⟨tb, rfl, hpos, htg, htb⟩
      · exact .inl ⟨rfl, by omega⟩
      · refine .inr ⟨tb, a1, c1, rfl, by omega, by have := (hI.ext x2).m.sta.size; omega, ?_, fun i hi => ?_⟩
        · rw [show t.count.toNat = c from by omega]; exact (htb.ext' x4).ext' x5
        · obtain ⟨g, cs', k1, k2, k3, k4⟩ := row1 i (by omega)
          exact ⟨g, cs', k1, by omega, k3.ext' x5, k4⟩
    · rw [show t.count.toNat = c from by omega]
      rcases ht2 with ⟨rfl, h⟩ | ⟨tb, rfl, hpos, htg, htb⟩
      · exact .inl ⟨rfl, h⟩
      · refine .inr ⟨tb, a2, c2, rfl, hpos, by have := ((hI.ext x2).ext x3).m.sta.size; omega, htb.ext' x5, fun i hi => ?_⟩
        obtain ⟨g, cs', k1, k2, k3, k4⟩ := row2 i hi
        exact ⟨g, cs', k1, by omega, k3.ext' x5, k4⟩
end Go.Proofs.YtpiegpegjbmlkaaGreatDoor
namespace Go.Proofs.YtpiegpegjbmlkaaGreatDoor
open Go Go.Kd
set_option maxRecDepth 100000

theorem typ_func (D : List De) (K : Cfg) (i : Nat) (t : Ty) (hk : t.kind = 8) (ih : ∀ (j : Nat) e, t.elems[j]? = some e → TypC D K i e) : TypC D K i t := by
  intro s w bb made p cs hx ha hb
  obtain ⟨a, cp, rfl, hv⟩ := ha.open
  have hl : tyc t a cp = tyl 8 t.n t.count t.vr (.slice a t.elems.length cp) t.name t.tag t.emb := by unfold tyc; rw [hk]
  rw [hl]
  refine W.enter (args := [pt bb, .agg (tyl 8 t.n t.count t.vr (.slice a t.elems.length cp) t.name t.tag t.emb).toArray]) Tryz.func79 rfl Tryz.ntmps79 rfl rfl ?_
  refine zst ?_
  refine WU.stp rfl rfl rfl (by first | exact stp_box rfl rfl | exact stp_box1 rfl rfl) ?_
  rintro _ w1 ⟨b1, rfl, n1⟩
  refine zst ?_
  have hsig := c_signature D K i t hk ih s w1 bb made p _ none (hx.ext n1.ext) (ha.ext n1.ext) hb
  rw [hl] at hsig
  refine WU.stp rfl rfl rfl (stp_call rfl hsig) ?_
  rintro _ w2 ⟨b, ps, rs, s', new, rfl, m, rt, hge, hh⟩
  refine zst ?_
  exact fin1 (.inl rfl) rfl rfl ⟨s', new, (m.le (by rw [wt_eq t]; omega)).before n1.ext, rt.mono fun c _ hc => Nat.le_trans n1.ext.size hc, _, _, rfl⟩

abbrev tST : Nat := 9
/-- fields and tags -/
def rkT (pv : Value) (tg : Nat → ByteArray) (cN : Nat) : RowK := ⟨tVR, fun e v => #[.int .i64 0, pv, .string e.name, v, .int .u8 6, .bool e.emb], tVA, tST, fun _ _ i => .string (tg i), cN, rfl, rfl, by decide, by decide, by decide, by decide⟩
theorem wt_name (t : Ty) : t.name.size ≤ wt t := by rw [wt_eq t]; omega
theorem pth_nodot (n : Int) : ∀ c ∈ (pth n).toList, c ≠ 46 := by
  unfold pth
  split <;> (rw [Lib.toList_data]; decide)
theorem pth_ne (n : Int) : (pth n).toList ≠ [] := by
  unfold pth
  split <;> (rw [Lib.toList_data]; decide)
theorem pth_size (n : Int) : (pth n).size = 1 := by
  unfold pth
  split <;> rfl
theorem uniq_names {l : List Ty} (h : Uniq (names l)) : (∀ (i : Nat) e, l[i]? = some e → Ident e.name.toList) ∧ ∀ (i j : Nat) e f, i < j → l[i]? = some e → l[j]? = some f → e.name.toList = f.name.toList → e.name.toList = us := by
  have hn : ∀ (i : Nat) e, l[i]? = some e → (names l)[i]? = some e.name.toList := fun i e he => by unfold names; rw [List.getElem?_map, he]; rfl
  exact ⟨fun i e he => h.id i _ (hn i e he), fun i j e f hij he hf heq => h.un i j _ hij (hn i e he) (by rw [heq]; exact hn j f hf)⟩
set_option maxHeartbeats 4000000 in
theorem typ_struct (D : List De) (K : Cfg) (i : Nat) (t : Ty) (hk : t.kind = 7) (ih : ∀ (j : Nat) e, t.elems[j]? = some e → TypC D K i e) : TypC D K i t := by
  intro s w bb made p cs hx ha hb
  replace hb : wt t + made.length ≤ 268435456 := hb
  obtain ⟨a, cp, rfl, hv⟩ := ha.open
  obtain ⟨v, hs⟩ := ha.sh
  have hn0 := hs.shape.n0 (by rw [hk]; simp [limitN])
  have hn1 := hs.shape.n1 (by rw [hk]; simp [limitN])
  rw [hk] at hn1
  have hn2 : t.n < 2 := by simpa [limitN] using hn1
  obtain ⟨m, hm⟩ := Int.eq_ofNat_of_zero_le hn0
  have hm2 : m < 2 := by omega
  have hwt := wt_eq t
  have hlen := wts_len t.elems
  obtain ⟨na, nl, nc, vm, hbb, how, hnm⟩ := hx.bi.ex
  obtain ⟨pc, px, hpc, hpk⟩ := hx.bi.pkg t.n (by omega)
  have pkc : ∀ (W : World) (u : Value), Has W bb (.cells #[s.pk 0, s.pk 1, .slice na nl nc, s.er, u] tBU) → W.cell? ⟨bb, m, none⟩ = some (pt pc) := fun W u h => by
    rw [← hpc, hm]
    match m, hm2 with
    | 0, _ => exact cell_of h rfl
    | 1, _ => exact cell_of h rfl
  have hl : tyc t a cp = tyl 7 m t.count t.vr (.slice a t.elems.length cp) t.name t.tag t.emb := by unfold tyc; rw [hk, hm]
  rw [hl]
  let tg : Nat → ByteArray := fun i => (t.elems.getD i anyT).tag
  refine W.enter (args := [pt bb, .agg (tyl 7 m t.count t.vr (.slice a t.elems.length cp) t.name t.tag t.emb).toArray]) Tryz.func79 rfl Tryz.ntmps79 rfl rfl ?_
  refine zst ?_
  refine WU.stp rfl rfl rfl (by first | exact stp_box rfl rfl | exact stp_box1 rfl rfl) ?_
  rintro _ w1 ⟨b1, rfl, n1⟩
  have ib1 := n1.has
  refine zst ?_
  have hnb1 : K.nb < w1.heap.size := Nat.lt_of_lt_of_le hx.bi.nbL n1.ext.size
  refine W.loop (σ := Nat × Value × Value) (fun (k, vp, vr) => [(100, .int .i64 k), (99, .int .i64 t.elems.length), (98, .slice a t.elems.length cp), (5, vp), (6, vr), (3, pt b1), (0, pt bb)])
    (fun (k, vp, vr) D' wk => D' = [] ∧ k ≤ t.elems.length ∧ Has wk b1 (.cells (tyl 7 m t.count t.vr (.slice a t.elems.length cp) t.name t.tag t.emb).toArray 26) ∧ ∃ s' new vb vv, GI (rkT (pt pc) tg t.elems.length) K s w1 bb made t.elems k k k vp vr s' new vb vv wk)
    (fun (k, _, _) => t.elems.length - k) (0, .slice none 0 0, .slice none 0 0)
    ⟨rfl, Nat.zero_le _, ib1, s, [], fun _ => 0, fun _ => .nilIface, GI.nil _ _ (hx.bi.ext n1.ext) _ _⟩
    (by exact sub_of ⟨rfl, rfl, rfl, rfl, rfl, rfl, rfl, trivial⟩) ?_
  rintro ⟨k, vp, vr⟩ D' wk ⟨rfl, hkl, ibk, s', new, vb, vv, hI⟩
  refine zst ?_
  by_cases hlt : k < t.elems.length
  · rw [show decide ((k : Int) < (t.elems.length : Int)) = true by simpa using hlt]
    have he := List.getElem?_eq_getElem hlt
    have htg : tg k = t.elems[k].tag := by show (t.elems.getD k anyT).tag = _; rw [List.getD_eq_getElem?_getD, he]; rfl
    generalize t.elems[k] = e at he htg
    obtain ⟨b, o, a3, c3, rfl, hpb, hcc, hae⟩ := ha.el hv he
    have hm' := hI.m
    have xk : Sta K 0 w wk := (Sta.of_ext n1.ext).trans hm'.sta
    have hck : Cells wk b (o + k * 8) (tyc e a3 c3) := Cells.sameB (xk.old b (ha.p b hpb).1 (ha.p b hpb).2) hcc
    have hwe := take_wts he
    have hwl := take_le (l := t.elems) (k + 1)
    have hln := hm'.len
    refine zst ?_
    refine WU.yld rfl rfl rfl (yld_load_cells rfl hck) ?_
    refine WU.stp rfl rfl rfl stp_alloc ?_
    rintro _ w2 ⟨b2, rfl, n2⟩
    refine WU.stp0 rfl rfl (stp_store_whole rfl rfl rfl rfl) ?_
    rintro _ w3 u3
    have x3 : Ext wk w3 := (u3.ofNew n2).ext
    have ib3 := ibk.ext' x3
    have ie3 := u3.has
    obtain ⟨vm3, hbb3⟩ := Has.staB (xk.ext x3) hbb
    obtain ⟨F, hFd⟩ : ∃ F : World → Prop, ∀ W, F W ↔ (Has W b2 (.cells (tyc e a3 c3).toArray 26) ∧ Has W b1 (.cells (tyl 7 m t.count t.vr (.slice (some ⟨b, o, none⟩) t.elems.length cp) t.name t.tag t.emb).toArray 26) ∧ ∃ u, Has W bb (.cells #[s.pk 0, s.pk 1, .slice na nl nc, s.er, u] tBU)) := ⟨fun W => (Has W b2 (.cells (tyc e a3 c3).toArray 26) ∧ Has W b1 (.cells (tyl 7 m t.count t.vr (.slice (some ⟨b, o, none⟩) t.elems.length cp) t.name t.tag t.emb).toArray 26) ∧ ∃ u, Has W bb (.cells #[s.pk 0, s.pk 1, .slice na nl nc, s.er, u] tBU)), fun _ => Iff.rfl⟩
    refine zst ?_
    refine W.regR (R := fun a b => F a → F b) (fun _ h => h) (fun _ _ _ h k x => k (h x)) [(0, .q), (1, .q), (2, .q), (3, .q), (4, .q), (5, .q), (6, .q), (7, .q), (8, .q), (9, .q), (10, .q), (11, .q), (13, .q), (14, .q), (12, .l), (15, .l), (16, .l), (17, .l), (18, .q)] (by kernel_rfl) (by kernel_rfl) rfl ?_
    intro w4 x4 _
    have hF : F w4 := (hFd _).2 ⟨ie3.ext' x4, ib3.ext' x4, vm3, hbb3.ext' x4⟩
    have x34 := x3.trans x4
    (repeat (first
        | refine WR.nilk ?_
        | refine WR.nil ?_
        | refine WR.yld (fun _ h => h) rfl rfl rfl rfl (fun w' hx => by obtain ⟨i1, i0, u, i2⟩ := (hFd _).1 (hx hF); first | exact zyl | (exact by first | exact yld_indexAddr_arr (i := m) rfl rfl (by omega) | exact yld_load_c rfl (pkc _ u i2)) | exact yld_indexAddr_arr rfl rfl (by omega)) ?_
        | refine WR.skip rfl rfl rfl rfl ?_))
    have hx4 : Ctx D K i s' w4 bb (made ++ new) := ((hx.ext n1.ext).made hm').ext x34
    refine WR.stp rfl rfl rfl rfl (stp_call rfl (ih k e he s' w4 bb (made ++ new) p _ hx4 ((hae.sta xk).ext x34) (by rw [List.length_append]; show _ ≤ 268435456; omega))) ?_
    rintro r w5 ⟨s2, new2, m5, rt5, T, eb, rfl⟩
    have hF : F w5 := by
      obtain ⟨i1, i0, u, i2⟩ := (hFd _).1 hF
      exact (hFd _).2 ⟨Has.sta m5.sta i1, Has.sta m5.sta i0, Has.staB m5.sta i2⟩
    refine ⟨fun _ => hF, ?_⟩
    (repeat (first
        | refine WR.nilk ?_
        | refine WR.nil ?_
        | refine WR.yld (fun _ h => h) rfl rfl rfl rfl (fun w' hx => by obtain ⟨i1, i0, u, i2⟩ := (hFd _).1 (hx hF); first | exact zyl | (exact by first | exact yld_indexAddr_arr (i := m) rfl rfl (by omega) | exact yld_load_c rfl (pkc _ u i2)) | exact yld_indexAddr_arr rfl rfl (by omega)) ?_
        | refine WR.skip rfl rfl rfl rfl ?_))
    refine WR.stp rfl rfl rfl rfl (stp_call rfl (c_NewField 0 (some ⟨pc, 0, none⟩) e.name T (pt eb) e.emb w5)) ?_
    rintro _ w6 ⟨b6, rfl, n6⟩
    have hF : F w6 := by
      obtain ⟨i1, i0, u, i2⟩ := (hFd _).1 hF
      exact (hFd _).2 ⟨i1.ext' n6.ext, i0.ext' n6.ext, u, i2.ext' n6.ext⟩
    refine ⟨fun _ => hF, ?_⟩
    (repeat (first
        | refine WR.nilk ?_
        | refine WR.nil ?_
        | refine WR.yld (fun _ h => h) rfl rfl rfl rfl (fun w' hx => by obtain ⟨i1, i0, u, i2⟩ := (hFd _).1 (hx hF); first | exact zyl | (exact by first | exact yld_indexAddr_arr (i := m) rfl rfl (by omega) | exact yld_load_c rfl (pkc _ u i2)) | exact yld_indexAddr_arr rfl rfl (by omega)) ?_
        | refine WR.skip rfl rfl rfl rfl ?_))
    have hI6 := hI.next he x34 (Nat.le_refl _) m5 rt5 n6 (fun i hi => rfl)
    refine WR.stp rfl rfl rfl rfl (stp_buildSlice rfl rfl rfl rfl rfl) ?_
    rintro _ w7 ⟨b7, rfl, n7⟩
    have hF : F w7 := by
      obtain ⟨i1, i0, u, i2⟩ := (hFd _).1 hF
      exact (hFd _).2 ⟨i1.ext' n7.ext, i0.ext' n7.ext, u, i2.ext' n7.ext⟩
    refine ⟨fun _ => hF, ?_⟩
    (repeat (first
        | refine WR.nilk ?_
        | refine WR.nil ?_
        | refine WR.yld (fun _ h => h) rfl rfl rfl rfl (fun w' hx => by obtain ⟨i1, i0, u, i2⟩ := (hFd _).1 (hx hF); first | exact zyl | (exact by first | exact yld_indexAddr_arr (i := m) rfl rfl (by omega) | exact yld_load_c rfl (pkc _ u i2)) | exact yld_indexAddr_arr rfl rfl (by omega)) ?_
        | refine WR.skip rfl rfl rfl rfl ?_))
    have hI7 := hI6.ext n7.ext
    have hsz1 := n1.ext.size
    refine WR.stp rfl rfl rfl rfl (stp_append1 (el := tVA) rfl rfl hI7.op (Cells.has n7.has) rfl rfl (by omega) (by simp [Value.oneCell']) (by rw [List.length_map, List.length_range]; omega) (Nat.le_trans hI7.m.sta.size (Nat.le_refl _))) ?_
    rintro v' w8 ⟨o8, a8, g8⟩
    have hF : F w8 := by
      obtain ⟨i1, i0, u, i2⟩ := (hFd _).1 hF
      exact (hFd _).2 ⟨Has.app (el := tVA) a8 hI7.op i1 (by decide), Has.app (el := tVA) a8 hI7.op i0 (by decide), u, Has.app (el := tVA) a8 hI7.op i2 (by decide)⟩
    refine ⟨fun _ => hF, ?_⟩
    (repeat (first
        | refine WR.nilk ?_
        | refine WR.nil ?_
        | refine WR.yld (fun _ h => h) rfl rfl rfl rfl (fun w' hx => by obtain ⟨i1, i0, u, i2⟩ := (hFd _).1 (hx hF); first | exact zyl | (exact by first | exact yld_indexAddr_arr (i := m) rfl rfl (by omega) | exact yld_load_c rfl (pkc _ u i2)) | exact yld_indexAddr_arr rfl rfl (by omega)) ?_
        | refine WR.skip rfl rfl rfl rfl ?_))
    have hI8 := hI7.app1 a8 (by rw [put_same]; exact o8) g8 (by omega) hnb1
    obtain ⟨je8, jb8, _, _⟩ := (hFd _).1 hF
    refine zst ?_
    refine WU.stp rfl rfl rfl (stp_buildSlice rfl rfl rfl rfl rfl) ?_
    rintro _ w9 ⟨b9, rfl, n9⟩
    have hI9 := hI8.ext n9.ext
    refine WU.stp rfl rfl rfl (stp_append1 (el := tST) rfl rfl hI9.or (Cells.has n9.has) rfl rfl (by omega) (by simp [Value.oneCell']) (by rw [List.length_map, List.length_range]; omega) (Nat.le_trans hI9.m.sta.size (Nat.le_refl _))) ?_
    rintro v2 w10 ⟨o10, a10, g10⟩
    have hI10 := hI9.app2 a10 (by show Own _ _ _ _ _ (_ ++ [[.string (tg k)]]); rw [htg]; exact o10) g10 hnb1
    have jb10 := Has.app (el := tST) a10 hI9.or (jb8.ext' n9.ext) (by decide)
    refine zst ?_
    exact ⟨(k + 1, v', v2), by show t.elems.length - (k + 1) < t.elems.length - k; omega, ⟨rfl, by omega, jb10, s2, new ++ new2, put vb k b6, put vv k (.iface T (pt eb)), hI10⟩, sub_of ⟨rfl, rfl, rfl, rfl, rfl, rfl, rfl, trivial⟩⟩
  · rw [show decide ((k : Int) < (t.elems.length : Int)) = false by simpa using hlt]
    have hkl' : k = t.elems.length := by omega
    subst hkl'
    obtain ⟨a1, c1, rfl, hr1⟩ := Own.row1 hI.op
    obtain ⟨a2, c2, rfl, hr2⟩ := Own.row1 hI.or
    have hI' := hI.m
    rw [List.take_length] at hI'
    have xk : Sta K 0 w wk := (Sta.of_ext n1.ext).trans hI'.sta
    obtain ⟨u1, u2⟩ := uniq_names (ha.lg.here.fld hk)
    have hel : ∀ i, i < t.elems.length → t.elems[i]? = some (t.elems.getD i anyT) := fun i hi => by rw [List.getD_eq_getElem?_getD, List.getElem?_eq_getElem hi]; rfl
    have hsz : ∀ i, i < t.elems.length → (t.elems.getD i anyT).name.size ≤ 268435456 := fun i hi => by
      have := wts_mem (List.mem_of_getElem? (hel i hi))
      have := wt_name (t.elems.getD i anyT)
      omega
    refine zst ?_
    refine WU.stp rfl rfl rfl (stp_call rfl (c_NewStruct a1 a2 t.elems.length c1 t.elems.length c2 vb (fun i => (t.elems.getD i anyT).name) vv (fun i => (t.elems.getD i anyT).emb) (pt pc) (pth t.n) wk (hx.prp.sta xk hx.gN) (fun i hi => by
            obtain ⟨g, cs', k1, _, _, k3, k4⟩ := hr1 i hi
            exact ⟨g, cs', k1, k3, k4⟩) (fun i hi => (hI.var i _ hi hi (hel i hi)).2) (fun i hi => ⟨⟨_, rfl⟩, fun _ => ⟨pc, px, rfl, Has.sta xk hpk, pth_ne _⟩⟩) (fun i hi => u1 i _ (hel i hi)) (pth_nodot _)
            (fun i j hij hj heq => u2 i j _ _ hij (hel i (by omega)) (hel j hj) heq) (fun i hi => by rw [pth_size]; have := hsz i hi; omega) (by omega) (Nat.le_refl _))) ?_
    rintro _ w2 ⟨b2, fa', fc', rfl, hfa, hge2, hh2, x2⟩
    refine zst ?_
    have hge : w1.heap.size ≤ b2 := by have := hI'.sta.size; omega
    have hsz1 := n1.ext.size
    have hnone : s'.g b2 = none := hI'.bi.fresh hge2
    have hni : ¬ isIf t := by
      rintro (h | h)
      · omega
      · omega
    have hI2 := hI.ext x2
    refine fin1 (.inl rfl) rfl rfl ⟨s'.set b2 t, new, (((hI'.ext x2).set hge hnone hh2.lt hni).before n1.ext).le (by omega), .struct t b2 fa' fc' a2 c2 vb vv tg hk (fun i e he => ?_) (fun i e he => ?_) (by omega) hh2 (fun i hi => ?_) (fun i hi => ?_) (Gs.set_same ..), _, _, rfl⟩
    · exact ((hI2.rt i e (List.getElem?_eq_some_iff.1 he).1 he).le (Gs.gle_set hnone).le).mono fun d _ hd => by omega
    · have hi := (List.getElem?_eq_some_iff.1 he).1
      obtain ⟨k1, k2⟩ := hI2.var i e hi hi he
      refine ⟨by omega, ?_, ?_⟩
      · show VarV w2 (vb i) ((s'.set b2 t).pk t.n) e.name (vv i) 6 e.emb
        rw [show (s'.set b2 t).pk t.n = pt pc from by rw [← hpc]; exact congrFun hI'.gle.pk _]
        exact k2
      · show (t.elems.getD i anyT).tag = e.tag
        rw [List.getD_eq_getElem?_getD, he]; rfl
    · obtain ⟨g, cs', k1, k2, _, k3, k4⟩ := hr1 i hi
      rw [hfa (by rw [k1]; simp)]
      exact ⟨g, cs', k1, by omega, k3.ext' x2, k4⟩
    · obtain ⟨g, cs', k1, k2, _, k3, k4⟩ := hr2 i hi
      exact ⟨g, cs', k1, by omega, k3.ext' x2, k4⟩
end Go.Proofs.YtpiegpegjbmlkaaGreatDoor
namespace Go.Proofs.YtpiegpegjbmlkaaGreatDoor
open Go Go.Kd
set_option maxRecDepth 100000

theorem Sta.bel {K : Cfg} {c : Nat} {w0 w w' : World} (h : Sta K c w0 w) (x : RowKit.Below w0.heap.size w w') : Sta K c w0 w' :=
  ⟨x.os.trans h.os, x.tape.trans h.tape, x.output.trans h.output, Nat.le_trans h.size x.size, fun d hd ha => (x.block d ha).trans (h.old d hd ha), fun d cs t fz hd ht ha => by
    rw [x.block d (Array.getElem?_eq_some_iff.1 ha).1]; exact h.new d cs t fz hd ht ha, fun d o hd ha ho => by
    rw [x.block d (Array.getElem?_eq_some_iff.1 ha).1]; exact h.oth d o hd ha ho⟩
/-- only signatures, rows of functions, and what is new, have turned -/
def SgF (w w' : World) : Prop := ∀ d cs t, Has w d (.cells cs t (0, 0)) → t ≠ tSG → t ≠ tFN → w'.heap[d]? = w.heap[d]?
theorem Made.chg {K : Cfg} {s1 s2 : Gs} {w1 w2 w3 : World} {bb : Nat} {made n1 : List Nat} {m : Nat} (h : Made K s1 w1 bb made m s2 n1 w2) (x : RowKit.Below w1.heap.size w2 w3) (hs : SgF w2 w3) (hr : ∀ v t, RT K s2 w2 s2.sl v t → RT K s2 w3 s2.sl v t) : Made K s1 w1 bb made m s2 n1 w3 := by
  have hk : ∀ d cs t, Has w2 d (.cells cs t (0, 0)) → t ≠ tSG → t ≠ tFN → Has w3 d (.cells cs t (0, 0)) := fun d cs t h1 h2 h3 => ⟨(hs d cs t h1 h2 h3).trans h1.at_⟩
  refine ⟨h.gle, h.sta.bel x, h.bi.keep x.size (fun d cs t hd ht => (by rcases ht with rfl | ⟨rfl, rfl⟩ | rfl | rfl <;> exact hs _ _ _ ⟨hd⟩ (by decide) (by decide))) hr, h.len, fun b u hu => ?_, fun d hd => (h.sn d hd).imp id fun h => ⟨h.1, Nat.lt_of_lt_of_le h.2 x.size⟩⟩
  rcases h.gn b u hu with k | ⟨k1, k2, k3⟩
  · exact .inl k
  · have key : ∀ ts, IfT w2 b ts → IfT w3 b ts := fun ts ⟨ma, mn, mc, ea, en, ec, h⟩ => ⟨ma, mn, mc, ea, en, ec, hk _ _ _ h (by decide) (by decide)⟩
    refine .inr ⟨k1, Nat.lt_of_lt_of_le k2 x.size, fun hi => ⟨(k3 hi).1, ?_⟩⟩
    rcases (k3 hi).2 with h | ⟨⟨tb, v, h1, h2, a, c, tb', h3, h4, h5⟩, h6⟩
    · exact .inl (key _ h)
    · exact .inr ⟨⟨tb, v, key _ h1, hk _ _ _ h2 (by decide) (by decide), a, c, tb', h3, fun i hi => by
        obtain ⟨b, cs, k1, k2, k3⟩ := h4 i hi
        exact ⟨b, cs, k1, hk _ _ _ k2 (by decide) (by decide), k3⟩, hk _ _ _ h5 (by decide) (by decide)⟩, h6⟩
abbrev tFU : Nat := 204
/-- methods and embedded types -/
def rkI (pv : Value) (c : Nat) : RowK := ⟨tFU, fun e v => #[.int .i64 0, pv, .string e.name, v, .bool false, .bool false], tFN, tTY, fun _ vv i => vv (c + i), c, rfl, rfl, by decide, by decide, by decide⟩
def sbOf : Value → Nat
  | .iface _ (.pointer (some a)) => a.block
  | _ => 0
/-- signatures without a receiver -/
def SigN (w wk : World) (l : List Ty) (k : Nat) (vv : Nat → Value) : Prop := ∀ (i : Nat) e, i < k → l[i]? = some e → ∃ sb ps rs : Nat × Option Addr, vv i = .iface tSP (pt sb.1) ∧ w.heap.size ≤ sb.1 ∧ Has wk sb.1 (.cells #[.pointer none, .pointer none, .pointer ps.2, .pointer rs.2, .bool e.vr] tSG)

/-- an interface type has been made -/
theorem iface_done {D : List De} {K : Cfg} {i : Nat} {s s' : Gs} {w1 wk w' : World} {bb c : Nat} {made new : List Nat} {t : Ty} {vp ve : Value} {vb : Nat → Nat} {vv : Nat → Value} {pc b : Nat} {ma ea : Option Addr} {mc ec : Nat}
    (hk : t.kind = 9) (hc : t.count = c) (hcl : c ≤ t.elems.length) (hx : Ctx D K i s w1 bb made) (hpc : s.pk t.n = pt pc)
    (hI : GI (rkI (pt pc) c) K s w1 bb made t.elems t.elems.length c (t.elems.length - c) vp ve s' new vb vv wk) (hvp : vp = .slice ma c mc) (hve : ve = .slice ea (t.elems.length - c) ec) (hbg : wk.heap.size ≤ b)
    (hr : (c = 0 ∧ t.elems.length - c = 0 ∧ (∃ tb v, Has w' b (.cells (ifc none 0 0 none 0 0 (pt tb)) tIF) ∧ Has w' tb (.cells #[.bool false, .slice none 0 0, v, .bool false] tTS) ∧ AllT w' v) ∧ Ext wk w') ∨
       (¬ (c = 0 ∧ t.elems.length - c = 0) ∧ Has w' b (.cells (ifc ma c mc ea (t.elems.length - c) ec (.pointer none)) tIF) ∧ ∃ (w2 : World) (σ : List Nat), Sta K 3 wk w2 ∧ (∀ d, d < wk.heap.size → (∀ i, i < c → d ≠ sbOf (vv i)) → w2.heap[d]? = wk.heap[d]?) ∧ Oth w2 w' b ma ∧ σ.Perm (List.range c) ∧
        RowP w' 132 ma c (fun i => vb (σ.getD i 0)))) (hsg : SigN w1 wk t.elems c vv) :
    Made K s w1 bb made (wts t.elems) s' new w' ∧ RT K (s'.set b t) w' (fun d => w1.heap.size ≤ d) (.iface 108 (pt b)) t ∧ Fresh w' b t ∧ s'.g b = none := by
  have hm := hI.m
  rw [List.take_length] at hm
  have hnone : s'.g b = none := hm.bi.fresh hbg
  have hsz := hm.sta.size
  have hcn : t.count.toNat = c := by omega
  rcases hr with ⟨h1, h2, ⟨tb, v, k1, k2, k3⟩, x⟩ | ⟨h0, hb', w2, σ, x2, hd2, ho, hσ, hrow⟩
  · have hnil : t.elems = [] := List.eq_nil_of_length_eq_zero (by omega)
    refine ⟨hm.ext x, .iface t b none 0 none 0 (fun _ => 0) (fun _ => anyT) (fun _ => .nilIface) (fun _ => .nilIface) hk (fun i hi => by omega) (fun i hi => by omega) (by rw [hcn, h1]; exact .refl _) (fun i e he => by rw [hnil] at he; simp at he) (by omega) ⟨pt tb, by rw [hcn, h1, hnil]; exact k1⟩ (fun i hi => by omega) (fun i hi => by rw [hnil] at hi; simp at hi) (Gs.set_same ..), .tse k1 k2 k3 (.inr hnil), hnone⟩
  · have hsbk : ∀ i, i < c → ∃ e, t.elems[i]? = some e ∧ vv i = .iface tSP (pt (sbOf (vv i))) ∧ w1.heap.size ≤ sbOf (vv i) ∧ ∃ cs, Has wk (sbOf (vv i)) (.cells cs tSG) := fun i hi => by
      have he := List.getElem?_eq_getElem (show i < t.elems.length by omega)
      obtain ⟨sb, ps, rs, g1, g2, g3⟩ := hsg i _ hi he
      rw [g1]
      exact ⟨_, he, rfl, g2, _, g3⟩
    have hma : ∀ a, ma = some a → w1.heap.size ≤ a.block ∧ a.block < wk.heap.size ∧ vp.ownBlock = some a.block := fun a ha => by
      have : vp.ownBlock = some a.block := by rw [hvp, ha]; rfl
      exact ⟨(hI.op.lt _ this).1, (hI.op.lt _ this).2, this⟩
    have hbel : RowKit.Below w1.heap.size wk w' := ⟨ho.os.trans x2.os, ho.tape.trans x2.tape, ho.output.trans x2.output, Nat.le_trans x2.size ho.size, fun d hd => by
      rw [ho.oth d (by have := x2.size; omega) (by omega) fun a ha => by have := (hma a ha).1; omega]
      exact hd2 d (by omega) fun i hi => by obtain ⟨_, _, _, h, _⟩ := hsbk i hi; omega⟩
    have hsgf : SgF wk w' := fun d cs t hd ht1 ht2 => by
      rw [ho.oth d (by have := x2.size; have := hd.lt; omega) (by have := hd.lt; omega) fun a ha e => Own.ne (el := tFN) hI.op hd ht2 _ (hma a ha).2.2 e.symm]
      exact hd2 d hd.lt fun i hi e => by
        obtain ⟨_, _, _, _, cs', h⟩ := hsbk i hi
        subst e
        have := hd.at_.symm.trans h.at_
        simp at this
        exact ht1 this.2
    have mv : ∀ {v : Value} {e : Ty}, RT K s' wk (fun d => w1.heap.size ≤ d ∧ vp.ownBlock ≠ some d ∧ ve.ownBlock ≠ some d) v e → RT K (s'.set b t) w' (fun d => w1.heap.size ≤ d) v e := fun h => by
      have h1 := (h.mono (q := fun d => (w1.heap.size ≤ d ∧ vp.ownBlock ≠ some d) ∧ d < wk.heap.size) fun d hd hp => ⟨⟨hp.1, hp.2.1⟩, hd⟩).sta x2 (by omega)
      have h2 := h1.same (w' := w') fun d hd => ho.oth d (by have := x2.size; omega) (by omega) fun a ha e => hd.1.2 (by rw [(hma a ha).2.2, e])
      exact (h2.le (Gs.gle_set hnone).le).mono fun d _ hd => hd.1.1
    have hσlen : σ.length = c := by rw [hσ.length_eq, List.length_range]
    have hσlt : ∀ i, i < c → σ.getD i 0 < c := fun i hi => by
      rw [List.getD_eq_getElem?_getD, List.getElem?_eq_getElem (by omega)]
      exact List.mem_range.1 (hσ.mem_iff.1 (List.getElem_mem (by omega)))
    have hel : ∀ i, i < t.elems.length → t.elems[i]? = some (t.elems.getD i anyT) := fun i hi => by rw [List.getD_eq_getElem?_getD, List.getElem?_eq_getElem hi]; rfl
    refine ⟨hm.chg hbel hsgf (fun v u hr => ((((hr.mono (q := fun d => s'.sl d ∧ d < wk.heap.size) fun d hd hp => ⟨hp, hd⟩).sta x2 (by omega)).same (w' := w') fun d hd => ho.oth d (by have := x2.size; omega) (by omega) fun a ha e => (hI.so d hd.1).1 (by rw [(hma a ha).2.2, e])).mono fun d _ hd => hd.1)), .iface t b ma mc ea ec (fun i => vb (σ.getD i 0)) (fun i => t.elems.getD (σ.getD i 0) anyT) (fun i => vv (σ.getD i 0)) (fun i => vv (c + i)) hk (fun i hi => ?_) (fun i hi => ?_) ?_ (fun i e he => ?_) (by omega) ⟨.pointer none, by rw [hcn]; exact hb'⟩ (fun i hi => ?_) (fun i hi => ?_) (Gs.set_same ..), .inl ⟨_, _, _, _, _, _, hb'⟩, hnone⟩
    · have hl := hσlt i (by omega)
      exact mv (hI.rt _ _ (by omega) (hel _ (by omega)))
    · have hl := hσlt i (by omega)
      obtain ⟨k1, k2⟩ := hI.var (σ.getD i 0) _ (by omega) (show σ.getD i 0 < c from hl) (hel _ (by omega))
      refine ⟨pt pc, .inl ?_, by omega, ⟨(hsgf _ _ _ k2 (by show tFU ≠ tSG; decide) (by show tFU ≠ tFN; decide)).trans k2.at_⟩⟩
      show pt pc = (s'.set b t).pk t.n
      rw [← hpc]; exact (congrFun hm.gle.pk _).symm
    · rw [hcn]
      have h1 : (List.range c).map (fun i => t.elems.getD (σ.getD i 0) anyT) = σ.map fun j => t.elems.getD j anyT := by
        apply List.ext_getElem?
        intro i
        rw [List.getElem?_map, List.getElem?_map]
        by_cases hi : i < c
        · rw [List.getElem?_range hi, List.getElem?_eq_getElem (show i < σ.length by omega)]
          simp only [Option.map_some]
          rw [List.getD_eq_getElem?_getD (l := σ), List.getElem?_eq_getElem (show i < σ.length by omega)]
          rfl
        · rw [List.getElem?_eq_none (by simpa using hi), List.getElem?_eq_none (by omega)]; rfl
      have h2 : (List.range c).map (fun j => t.elems.getD j anyT) = t.elems.take c := by
        apply List.ext_getElem?
        intro i
        rw [List.getElem?_map]
        by_cases hi : i < c
        · rw [List.getElem?_range hi, List.getElem?_take_of_lt hi, hel i (by omega)]; rfl
        · rw [List.getElem?_eq_none (by simpa using hi), List.getElem?_eq_none (by simp; omega)]; rfl
      rw [h1, ← h2]
      exact hσ.map _
    · rw [hcn] at he
      exact mv (hI.rt _ e (List.getElem?_eq_some_iff.1 he).1 he)
    · rw [hcn] at hi
      obtain ⟨g, cs, k1, k2, k3⟩ := hrow i hi
      exact ⟨g, cs, k1, by have := (hma _ k1).1; simpa using this, k2, k3⟩
    · rw [hcn] at hi
      obtain ⟨a', cp', k1, k2⟩ := Own.row1 hI.or
      rw [hve] at k1
      cases k1
      obtain ⟨g, cs, q1, q2, q3, q4, q5⟩ := k2 i hi
      refine ⟨g, cs, q1, q2, ?_, ⟨(hsgf _ _ _ q4 (by show tTY ≠ tSG; decide) (by show tTY ≠ tFN; decide)).trans q4.at_⟩, q5⟩
      have := hx.bi.nbL
      omega
/-- .. and put into the builder's list -/
theorem Made.pushIf {K : Cfg} {s1 s2 : Gs} {w1 w2 w3 : World} {bb : Nat} {made n1 : List Nat} {m : Nat} (h : Made K s1 w1 bb made m s2 n1 w2) {b : Nat} {t : Ty} (hn : s2.g b = none) (hb : w1.heap.size ≤ b) (hb' : b < w2.heap.size) (hf : Fresh w2 b t)
    (hp : BI K ((s2.set b t).clo w1.heap.size w2.heap.size) w3 bb ((made ++ n1) ++ [b]) ∧ Sta K 0 w2 w3) : Made K s1 w1 bb made (m + 1) ((s2.set b t).clo w1.heap.size w2.heap.size) (n1 ++ [b]) w3 :=
  ⟨h.gle.trans ((Gs.gle_set hn).trans (Gs.gle_seal ..)), h.sta.trans hp.2, by rw [← List.append_assoc]; exact hp.1, by rw [List.length_append, List.length_singleton]; have := h.len; omega, fun c u hc => by
    replace hc : (if c = b then some t else s2.g c) = some u := hc
    by_cases hcb : c = b
    · subst hcb
      simp only [if_true, Option.some.injEq] at hc
      subst hc
      exact .inr ⟨hb, Nat.lt_of_lt_of_le hb' hp.2.size, fun _ => ⟨List.mem_append_right _ (List.mem_singleton_self _), hf.sta0 hp.2⟩⟩
    · simp only [hcb, if_false] at hc
      rcases h.gn c u hc with k | ⟨k1, k2, k3⟩
      · exact .inl k
      · exact .inr ⟨k1, Nat.lt_of_lt_of_le k2 hp.2.size, fun hi => ⟨List.mem_append_left _ (k3 hi).1, (k3 hi).2.sta0 hp.2⟩⟩, fun d hd => by
    have hs2 := hp.2.size
    have hs1 := h.sta.size
    rcases hd with hd | hd
    · exact (h.sn d hd).imp id fun h => ⟨h.1, Nat.lt_of_lt_of_le h.2 hs2⟩
    · exact .inr (by omega)⟩
def psOf (w : World) (b i : Nat) : Value := match w.heap[b]? with
  | some (.cells cs _ _) => cs.getD i .nilIface
  | _ => .nilIface
end Go.Proofs.YtpiegpegjbmlkaaGreatDoor
namespace Go.Proofs.YtpiegpegjbmlkaaGreatDoor
open Go Go.Kd
set_option maxRecDepth 100000

set_option maxHeartbeats 6000000 in
theorem typ_iface (D : List De) (K : Cfg) (i : Nat) (t : Ty) (hk : t.kind = 9) (ih : ∀ e, wt e < wt t → TypC D K i e) : TypC D K i t := by
  intro s w bb made p cs hx ha hb
  replace hb : wt t + made.length ≤ 268435456 := hb
  obtain ⟨a, cp, rfl, hv⟩ := ha.open
  obtain ⟨v, hs⟩ := ha.sh
  have hcap := hv.cap
  have hn0 := hs.shape.n0 (by rw [hk]; simp [limitN])
  have hn1 := hs.shape.n1 (by rw [hk]; simp [limitN])
  rw [hk] at hn1
  have hn2 : t.n < 2 := by simpa [limitN] using hn1
  have hc0 := hs.shape.c0 (.inr hk)
  have hc1 := hs.shape.c1 (.inr hk)
  obtain ⟨c, hc⟩ := Int.eq_ofNat_of_zero_le hc0
  have hcl : c ≤ t.elems.length := by omega
  obtain ⟨m, hm⟩ := Int.eq_ofNat_of_zero_le hn0
  have hm2 : m < 2 := by omega
  have hwt := wt_eq t
  have hlen := wts_len t.elems
  obtain ⟨na, nl, nc, vm, hbb, how, hnm⟩ := hx.bi.ex
  obtain ⟨pc, px, hpc, hpk⟩ := hx.bi.pkg t.n (by omega)
  have pkc : ∀ (W : World) (u : Value), Has W bb (.cells #[s.pk 0, s.pk 1, .slice na nl nc, s.er, u] tBU) → W.cell? ⟨bb, m, none⟩ = some (pt pc) := fun W u h => by
    rw [← hpc, hm]
    match m, hm2 with
    | 0, _ => exact cell_of h rfl
    | 1, _ => exact cell_of h rfl
  have hl : tyc t a cp = tyl 9 m c t.vr (.slice a t.elems.length cp) t.name t.tag t.emb := by unfold tyc; rw [hk, hm, hc]
  rw [hl]
  refine W.enter (args := [pt bb, .agg (tyl 9 m c t.vr (.slice a t.elems.length cp) t.name t.tag t.emb).toArray]) Tryz.func79 rfl Tryz.ntmps79 rfl rfl ?_
  refine zst ?_
  refine WU.stp rfl rfl rfl (by first | exact stp_box rfl rfl | exact stp_box1 rfl rfl) ?_
  rintro _ w1 ⟨b1, rfl, n1⟩
  have ib1 := n1.has
  refine zst ?_
  have hnb1 : K.nb < w1.heap.size := Nat.lt_of_lt_of_le hx.bi.nbL n1.ext.size
  refine W.loop (σ := Nat × Value) (fun (k, vp) => [(144, .int .i64 k), (143, .int .i64 c), (142, .slice a c cp), (9, vp), (3, pt b1), (0, pt bb)])
    (fun (k, vp) D' wk => D' = [] ∧ k ≤ c ∧ Has wk b1 (.cells (tyl 9 m c t.vr (.slice a t.elems.length cp) t.name t.tag t.emb).toArray 26) ∧ ∃ s' new vb vv, GI (rkI (pt pc) c) K s w1 bb made t.elems k k 0 vp (.slice none 0 0) s' new vb vv wk ∧ SigN w1 wk t.elems k vv)
    (fun (k, _) => c - k) (0, .slice none 0 0)
    ⟨rfl, Nat.zero_le _, ib1, s, [], fun _ => 0, fun _ => .nilIface, GI.nil _ _ (hx.bi.ext n1.ext) _ _, fun i e hi => by omega⟩
    (by exact sub_of ⟨rfl, rfl, rfl, rfl, rfl, rfl, trivial⟩) ?_
  rintro ⟨k, vp⟩ D' wk ⟨rfl, hkc, ibk, s', new, vb, vv, hI, hSg⟩
  refine zst ?_
  by_cases hlt : k < c
  · rw [show decide ((k : Int) < (c : Int)) = true by simpa using hlt]
    have hltl : k < t.elems.length := by omega
    have he := List.getElem?_eq_getElem hltl
    generalize t.elems[k] = e at he
    obtain ⟨b, o, a3, c3, rfl, hpb, hcc, hae⟩ := ha.el hv he
    have hm' := hI.m
    have xk : Sta K 0 w wk := (Sta.of_ext n1.ext).trans hm'.sta
    have hck : Cells wk b (o + k * 8) (tyc e a3 c3) := Cells.sameB (xk.old b (ha.p b hpb).1 (ha.p b hpb).2) hcc
    have hwe := take_wts he
    have hwl := take_le (l := t.elems) (k + 1)
    have hln := hm'.len
    refine zst ?_
    refine WU.yld rfl rfl rfl (yld_load_cells rfl hck) ?_
    refine WU.stp rfl rfl rfl stp_alloc ?_
    rintro _ w2 ⟨b2, rfl, n2⟩
    refine WU.stp0 rfl rfl (stp_store_whole rfl rfl rfl rfl) ?_
    rintro _ w3 u3
    have x3 : Ext wk w3 := (u3.ofNew n2).ext
    have ib3 := ibk.ext' x3
    have ie3 := u3.has
    obtain ⟨vm3, hbb3⟩ := Has.staB (xk.ext x3) hbb
    obtain ⟨F, hFd⟩ : ∃ F : World → Prop, ∀ W, F W ↔ (Has W b2 (.cells (tyc e a3 c3).toArray 26) ∧ Has W b1 (.cells (tyl 9 m c t.vr (.slice (some ⟨b, o, none⟩) t.elems.length cp) t.name t.tag t.emb).toArray 26) ∧ ∃ u, Has W bb (.cells #[s.pk 0, s.pk 1, .slice na nl nc, s.er, u] tBU)) := ⟨fun W => (Has W b2 (.cells (tyc e a3 c3).toArray 26) ∧ Has W b1 (.cells (tyl 9 m c t.vr (.slice (some ⟨b, o, none⟩) t.elems.length cp) t.name t.tag t.emb).toArray 26) ∧ ∃ u, Has W bb (.cells #[s.pk 0, s.pk 1, .slice na nl nc, s.er, u] tBU)), fun _ => Iff.rfl⟩
    refine zst ?_
    refine W.regR (R := fun a b => F a → F b) (fun _ h => h) (fun _ _ _ h k x => k (h x)) [(0, .q), (1, .q), (2, .q), (3, .q), (4, .q), (5, .q), (6, .q), (7, .q), (8, .q), (9, .q), (10, .q), (11, .q), (12, .l), (13, .l), (14, .l), (15, .l), (16, .q)] (by kernel_rfl) (by kernel_rfl) rfl ?_
    intro w4 x4 _
    have hF : F w4 := (hFd _).2 ⟨ie3.ext' x4, ib3.ext' x4, vm3, hbb3.ext' x4⟩
    have x34 := x3.trans x4
    (repeat (first
        | refine WR.nilk ?_
        | refine WR.nil ?_
        | refine WR.yld (fun _ h => h) rfl rfl rfl rfl (fun w' hx => by obtain ⟨i1, i0, u, i2⟩ := (hFd _).1 (hx hF); first | exact zyl | (exact by first | exact yld_indexAddr_arr (i := m) rfl rfl (by omega) | exact yld_load_c rfl (pkc _ u i2)) | exact yld_indexAddr_arr rfl rfl (by omega)) ?_
        | refine WR.skip rfl rfl rfl rfl ?_))
    have hx4 : Ctx D K i s' w4 bb (made ++ new) := ((hx.ext n1.ext).made hm').ext x34
    have hek : e.kind = 8 := hs.shape.mth hk k e he (by rw [hc]; omega)
    have hwte := wt_el he
    refine WR.stp rfl rfl rfl rfl (stp_call rfl (c_signature D K i e hek (fun j e' he' => ih e' (Nat.lt_trans (wt_el he') hwte)) s' w4 bb (made ++ new) p _ none hx4 ((hae.sta xk).ext x34) (by rw [List.length_append]; show _ ≤ 268435456; omega))) ?_
    rintro r w5 ⟨eb, ps5, rs5, s2, new2, rfl, m5, rt5, hge5, hh5⟩
    have hF : F w5 := by
      obtain ⟨i1, i0, u, i2⟩ := (hFd _).1 hF
      exact (hFd _).2 ⟨Has.sta m5.sta i1, Has.sta m5.sta i0, Has.staB m5.sta i2⟩
    refine ⟨fun _ => hF, ?_⟩
    (repeat (first
        | refine WR.nilk ?_
        | refine WR.nil ?_
        | refine WR.yld (fun _ h => h) rfl rfl rfl rfl (fun w' hx => by obtain ⟨i1, i0, u, i2⟩ := (hFd _).1 (hx hF); first | exact zyl | (exact by first | exact yld_indexAddr_arr (i := m) rfl rfl (by omega) | exact yld_load_c rfl (pkc _ u i2)) | exact yld_indexAddr_arr rfl rfl (by omega)) ?_
        | refine WR.skip rfl rfl rfl rfl ?_))
    refine WR.stp rfl rfl rfl rfl (stp_call rfl (c_NewFunc 0 (some ⟨pc, 0, none⟩) e.name eb w5)) ?_
    rintro _ w6 ⟨b6, rfl, n6⟩
    have hF : F w6 := by
      obtain ⟨i1, i0, u, i2⟩ := (hFd _).1 hF
      exact (hFd _).2 ⟨i1.ext' n6.ext, i0.ext' n6.ext, u, i2.ext' n6.ext⟩
    refine ⟨fun _ => hF, ?_⟩
    (repeat (first
        | refine WR.nilk ?_
        | refine WR.nil ?_
        | refine WR.yld (fun _ h => h) rfl rfl rfl rfl (fun w' hx => by obtain ⟨i1, i0, u, i2⟩ := (hFd _).1 (hx hF); first | exact zyl | (exact by first | exact yld_indexAddr_arr (i := m) rfl rfl (by omega) | exact yld_load_c rfl (pkc _ u i2)) | exact yld_indexAddr_arr rfl rfl (by omega)) ?_
        | refine WR.skip rfl rfl rfl rfl ?_))
    have hI6 := hI.next he x34 (show wts e.elems ≤ wt e by rw [wt_eq e]; omega) m5 rt5 n6 (fun i hi => absurd hi (Nat.not_lt_zero _))
    refine WR.stp rfl rfl rfl rfl (stp_buildSlice rfl rfl rfl rfl rfl) ?_
    rintro _ w7 ⟨b7, rfl, n7⟩
    have hF : F w7 := by
      obtain ⟨i1, i0, u, i2⟩ := (hFd _).1 hF
      exact (hFd _).2 ⟨i1.ext' n7.ext, i0.ext' n7.ext, u, i2.ext' n7.ext⟩
    refine ⟨fun _ => hF, ?_⟩
    (repeat (first
        | refine WR.nilk ?_
        | refine WR.nil ?_
        | refine WR.yld (fun _ h => h) rfl rfl rfl rfl (fun w' hx => by obtain ⟨i1, i0, u, i2⟩ := (hFd _).1 (hx hF); first | exact zyl | (exact by first | exact yld_indexAddr_arr (i := m) rfl rfl (by omega) | exact yld_load_c rfl (pkc _ u i2)) | exact yld_indexAddr_arr rfl rfl (by omega)) ?_
        | refine WR.skip rfl rfl rfl rfl ?_))
    have hI7 := hI6.ext n7.ext
    have hsz1 := n1.ext.size
    refine WR.stp rfl rfl rfl rfl (stp_append1 (el := tFN) rfl rfl hI7.op (Cells.has n7.has) rfl rfl (by omega) (by simp [Value.oneCell']) (by rw [List.length_map, List.length_range]; omega) (Nat.le_trans hI7.m.sta.size (Nat.le_refl _))) ?_
    rintro v' w8 ⟨o8, a8, g8⟩
    have hF : F w8 := by
      obtain ⟨i1, i0, u, i2⟩ := (hFd _).1 hF
      exact (hFd _).2 ⟨Has.app (el := tFN) a8 hI7.op i1 (by decide), Has.app (el := tFN) a8 hI7.op i0 (by decide), u, Has.app (el := tFN) a8 hI7.op i2 (by decide)⟩
    refine ⟨fun _ => hF, ?_⟩
    (repeat (first
        | refine WR.nilk ?_
        | refine WR.nil ?_
        | refine WR.yld (fun _ h => h) rfl rfl rfl rfl (fun w' hx => by obtain ⟨i1, i0, u, i2⟩ := (hFd _).1 (hx hF); first | exact zyl | (exact by first | exact yld_indexAddr_arr (i := m) rfl rfl (by omega) | exact yld_load_c rfl (pkc _ u i2)) | exact yld_indexAddr_arr rfl rfl (by omega)) ?_
        | refine WR.skip rfl rfl rfl rfl ?_))
    have hI8 := hI7.app1 a8 (by rw [put_same]; exact o8) g8 (by omega) hnb1
    obtain ⟨je8, jb8, _, _⟩ := (hFd _).1 hF
    have hSg8 : SigN w1 w8 t.elems (k + 1) (put vv k (.iface tSP (pt eb))) := fun j e' hj he' => by
      have mv : ∀ {sb : Nat} {cs : Array Value}, Has w5 sb (.cells cs tSG) → Has w8 sb (.cells cs tSG) := fun h => Has.app (el := tFN) a8 hI7.op ((h.ext' n6.ext).ext' n7.ext) (by decide)
      by_cases hjk : j = k
      · subst hjk
        rw [he] at he'
        cases he'
        rw [put_same]
        exact ⟨(eb, none), (0, ps5), (0, rs5), rfl, by have := hm'.sta.size; have := x34.size; show _ ≤ eb; omega, mv hh5⟩
      · rw [put_lt vv _ (by omega)]
        obtain ⟨sb, ps, rs, q1, q2, q3⟩ := hSg j e' (by omega) he'
        exact ⟨sb, ps, rs, q1, q2, mv (Has.sta0 m5.sta (by decide) (by decide) (q3.ext' x34))⟩
    refine zst ?_
    exact ⟨(k + 1, v'), by show c - (k + 1) < c - k; omega, ⟨rfl, by omega, jb8, s2, new ++ new2, put vb k b6, put vv k (.iface tSP (pt eb)), hI8, hSg8⟩, sub_of ⟨rfl, rfl, rfl, rfl, rfl, rfl, trivial⟩⟩
  · rw [show decide ((k : Int) < (c : Int)) = false by simpa using hlt]
    obtain rfl : k = c := by omega
    refine zst ?_
    refine W.loop (σ := Nat × Value) (fun (j, ve) => [(171, .int .i64 j), (170, .int .i64 (t.elems.length - k : Nat)), (169, .slice (past a k cp 8) (t.elems.length - k) (cp - k)), (9, vp), (12, ve), (3, pt b1), (0, pt bb)])
      (fun (j, ve) D' wk => D' = [] ∧ j ≤ t.elems.length - k ∧ Has wk b1 (.cells (tyl 9 m k t.vr (.slice a t.elems.length cp) t.name t.tag t.emb).toArray 26) ∧ ∃ s' new vb vv, GI (rkI (pt pc) k) K s w1 bb made t.elems (k + j) k j vp ve s' new vb vv wk ∧ SigN w1 wk t.elems k vv)
      (fun (j, _) => t.elems.length - k - j) (0, .slice none 0 0)
      ⟨rfl, Nat.zero_le _, ibk, s', new, vb, vv, hI, hSg⟩
      (by exact sub_of ⟨rfl, rfl, rfl, rfl, rfl, rfl, rfl, trivial⟩) ?_
    clear hI hSg ibk s' new vb vv
    rintro ⟨j, ve⟩ D' wl ⟨rfl, hjl, ibl, s', new, vb, vv, hI, hSg⟩
    refine zst ?_
    by_cases hltj : j < t.elems.length - k
    · rw [show decide ((j : Int) < ((t.elems.length - k : Nat) : Int)) = true by simpa using hltj]
      have hltl : k + j < t.elems.length := by omega
      have he := List.getElem?_eq_getElem hltl
      generalize t.elems[k + j] = e at he
      obtain ⟨b, o, a3, c3, rfl, hpb, hcc, hae⟩ := ha.el hv he
      have hm' := hI.m
      have xl : Sta K 0 w wl := (Sta.of_ext n1.ext).trans hm'.sta
      have hck : Cells wl b (o + k * 8 + j * 8) (tyc e a3 c3) := by
        rw [show o + k * 8 + j * 8 = o + (k + j) * 8 from by omega]
        exact Cells.sameB (xl.old b (ha.p b hpb).1 (ha.p b hpb).2) hcc
      have hpast : past (some ⟨b, o, none⟩) k cp 8 = some ⟨b, o + k * 8, none⟩ := by
        unfold past
        rw [if_neg (by omega)]
        exact congrArg some (Addr.add_mid ..)
      rw [hpast]
      have hwe := take_wts he
      have hwl := take_le (l := t.elems) (k + j + 1)
      have hln := hm'.len
      refine zst ?_
      refine WU.yld rfl rfl rfl (yld_load_cells rfl hck) ?_
      refine WU.stp rfl rfl rfl stp_alloc ?_
      rintro _ w2 ⟨b2, rfl, n2⟩
      refine WU.stp0 rfl rfl (stp_store_whole rfl rfl rfl rfl) ?_
      rintro _ w3 u3
      have x3 : Ext wl w3 := (u3.ofNew n2).ext
      have ib3 := ibl.ext' x3
      have ie3 := u3.has
      refine zst ?_
      refine WU.stp rfl rfl rfl (stp_call rfl (ih e (wt_el he) s' w3 bb (made ++ new) p _ (((hx.ext n1.ext).made hm').ext x3) ((hae.sta xl).ext x3) (by rw [List.length_append]; show _ ≤ 268435456; omega))) ?_
      rintro r w5 ⟨s2, new2, m5, rt5, T, eb, rfl⟩
      have hI5 := hI.next0 he x3 (Nat.le_refl _) m5 rt5 (fun i hi => put_lt vv _ (by omega)) (Nat.le_add_right _ _)
      refine WU.stp rfl rfl rfl (stp_buildSlice rfl rfl rfl rfl rfl) ?_
      rintro _ w7 ⟨b7, rfl, n7⟩
      have hI7 := hI5.ext n7.ext
      have hsz1 := n1.ext.size
      refine WU.stp rfl rfl rfl (stp_append1 (el := tTY) rfl rfl hI7.or (Cells.has n7.has) rfl rfl (by omega) (by simp [Value.oneCell']) (by rw [List.length_map, List.length_range]; omega) (Nat.le_trans hI7.m.sta.size (Nat.le_refl _))) ?_
      rintro v' w8 ⟨o8, a8, g8⟩
      have hI8 := hI7.app2 a8 (by show Own _ _ _ _ _ (_ ++ [[put vv (k + j) _ (k + j)]]); rw [put_same]; exact o8) g8 hnb1
      have jb8 := Has.app (el := tTY) a8 hI7.or ((Has.sta m5.sta ib3).ext' n7.ext) (by decide)
      have hSg8 : SigN w1 w8 t.elems k (put vv (k + j) (.iface T (pt eb))) := fun q e' hq he' => by
        rw [put_lt vv _ (by omega)]
        obtain ⟨sb, ps, rs, q1, q2, q3⟩ := hSg q e' hq he'
        exact ⟨sb, ps, rs, q1, q2, Has.app (el := tTY) a8 hI7.or ((Has.sta0 m5.sta (by decide) (by decide) (q3.ext' x3)).ext' n7.ext) (by decide)⟩
      refine zst ?_
      rw [← hpast]
      exact ⟨(j + 1, v'), by show t.elems.length - k - (j + 1) < t.elems.length - k - j; omega, ⟨rfl, by omega, jb8, s2, new ++ new2, vb, put vv (k + j) (.iface T (pt eb)), hI8, hSg8⟩, sub_of ⟨rfl, rfl, rfl, rfl, rfl, rfl, rfl, trivial⟩⟩
    · rw [show decide ((j : Int) < ((t.elems.length - k : Nat) : Int)) = false by simpa using hltj]
      obtain rfl : j = t.elems.length - k := by omega
      rw [show k + (t.elems.length - k) = t.elems.length from by omega] at hI
      obtain ⟨ma, mc, rfl, hr1⟩ := Own.row1 hI.op
      obtain ⟨ea, ec, rfl, hr2⟩ := Own.row1 hI.or
      have hI' := hI.m
      rw [List.take_length] at hI'
      have xl : Sta K 0 w wl := (Sta.of_ext n1.ext).trans hI'.sta
      have hel : ∀ i, i < t.elems.length → t.elems[i]? = some (t.elems.getD i anyT) := fun i hi => by rw [List.getD_eq_getElem?_getD, List.getElem?_eq_getElem hi]; rfl
      have htk : ∀ i, i < k → (t.elems.take k)[i]? = some (t.elems.getD i anyT) := fun i hi => by rw [List.getElem?_take_of_lt hi]; exact hel i (by omega)
      have huq := ha.lg.here.unq hk
      rw [show t.count.toNat = k from by omega] at huq
      obtain ⟨u1, u2⟩ := uniq_names huq
      have hsb : ∀ i, i < k → vv i = .iface tSP (pt (sbOf (vv i))) ∧ w1.heap.size ≤ sbOf (vv i) ∧ SigP wl (sbOf (vv i)) (psOf wl (sbOf (vv i)) 2) (psOf wl (sbOf (vv i)) 3) (t.elems.getD i anyT).vr := fun i hi => by
        obtain ⟨sb, ps, rs, q1, q2, q3⟩ := hSg i _ hi (hel i (by omega))
        rw [q1]
        have hpo : ∀ x, psOf wl sb.1 x = (#[.pointer none, .pointer none, .pointer ps.2, .pointer rs.2, .bool (t.elems.getD i anyT).vr] : Array Value).getD x .nilIface := fun x => by unfold psOf; rw [q3.at_]
        refine ⟨rfl, q2, none, ?_⟩
        show Has wl sb.1 (.cells #[.pointer none, .pointer none, psOf wl sb.1 2, psOf wl sb.1 3, _] tSG)
        rw [hpo, hpo]
        exact q3
      have hfr : FRow wl k vb (fun _ => pt pc) (fun i => (t.elems.getD i anyT).name) (fun _ => pth t.n) (fun i => .iface tSP (pt (sbOf (vv i)))) := ⟨fun i hi => by
          have := (hI.var i _ (by omega) (show i < k from hi) (hel i (by omega))).2
          show FuncV wl (vb i) (pt pc) _ (.iface tSP (pt (sbOf (vv i))))
          rw [← (hsb i hi).1]
          exact this, fun i hi => ⟨⟨_, rfl⟩, fun _ => ⟨pc, px, rfl, Has.sta xl hpk, pth_ne _⟩⟩, fun i hi => (u1 i _ (htk i hi)).asc, fun i j hi hj heq => by
          have h1 := (idS_inj (u1 i _ (htk i hi)) (u1 j _ (htk j hj)) (pth_nodot _) (pth_nodot _) heq).1
          rcases Nat.lt_trichotomy i j with h | h | h
          · exact absurd (u2 i j _ _ h (htk i hi) (htk j hj) h1) (ha.lg.here.mth hk i _ (hel i (by omega)) (by omega))
          · exact h
          · exact absurd (u2 j i _ _ h (htk j hj) (htk i hi) h1.symm) (ha.lg.here.mth hk j _ (hel j (by omega)) (by omega))⟩
      have hNw := hx.bi.nbN
      refine zst ?_
      refine WU.stp rfl rfl rfl (stp_call rfl (c_NewInterfaceType K ma ea k mc (t.elems.length - k) ec vb (fun i => sbOf (vv i)) (fun _ => pt pc) (fun i => (t.elems.getD i anyT).name) (fun _ => pth t.n) (fun i => psOf wl (sbOf (vv i)) 2) (fun i => psOf wl (sbOf (vv i)) 3) (fun i => (t.elems.getD i anyT).vr) wl (hx.prp.sta xl hx.gN) hx.gN (fun a' ha' => by
                have h1 : (Value.slice ma k mc).ownBlock = some a'.block := by rw [ha']; rfl
                have h2 := hI.op.lt _ h1
                have := hx.gN
                exact ⟨by omega, h2.2⟩) (fun i hi => by
                obtain ⟨g, cs', q1, _, _, q3, q4⟩ := hr1 i hi
                exact ⟨g, cs', q1, q3, q4⟩) hfr (fun i hi => (hsb i hi).2.2) (fun i hi => by have := (hsb i hi).2.1; omega) (by omega))) ?_
      rintro _ w2 ⟨b, rfl, hbg, hblt, hr⟩
      obtain ⟨d1, d2, d3, d4⟩ := iface_done hk hc hcl (hx.ext n1.ext) hpc hI rfl rfl hbg hr hSg
      obtain ⟨na', nl', nc', vm', hbb2, how2, hnm2⟩ := d1.bi.ex
      have hNb := d1.bi.N
      have hln2 := d1.len
      refine zst ?_
      refine WU.stp rfl rfl rfl (stp_buildSlice rfl rfl rfl rfl rfl) ?_
      rintro _ w3 ⟨b3, rfl, n3⟩
      have hbb3 := hbb2.ext' n3.ext
      have how3 := how2.ext n3.ext
      refine WU.stp rfl rfl rfl (stp_append1 (el := tPI) rfl rfl how3 (Cells.has n3.has) rfl rfl (by omega) (by simp [Value.oneCell']) (by rw [List.length_map, List.length_append]; omega) (by have := hbb3.lt; omega)) ?_
      rintro v' w4 ⟨o4, a4, _⟩
      have hbb4 : Has w4 bb (.cells #[s'.pk 0, s'.pk 1, .slice na' nl' nc', s'.er, vm'] tBU) := App.keep a4 hbb3 (Own.ne how3 hbb3 (by decide))
      obtain ⟨sa, scp, hsh, _, _⟩ := o4.shape
      subst hsh
      refine zst ?_
      refine WU.stp0 rfl rfl (stp_store_cell rfl rfl rfl rfl) ?_
      rintro _ w5 u5
      refine zst ?_
      have hkb : Kno K ((s'.set b t).clo w1.heap.size w3.heap.size) w3 b := ⟨t, Gs.set_same .., .inl hk, by rw [hx.dk]; exact ⟨⟨i, v, hx.il, hs⟩, by show wt t ≤ 268435456; omega, ha.lg⟩, ((RT.ext n3.ext d2).le (Gs.gle_seal ..).le).mono fun d hd h => .inr ⟨h, hd⟩⟩
      have hpu := (((d1.bi.ext n3.ext).set (t := t) d4 (Nat.lt_of_lt_of_le hblt n3.ext.size)).clo w1.heap.size (Nat.le_refl _)).push (b := b) hkb hbb3 how3 (fun i u hu => by
        obtain ⟨cs, q1, q2, q3, q4⟩ := hnm2 i u hu
        exact ⟨cs, q1, q2, q3.ext' n3.ext, q4⟩) a4 o4 u5
      have hsz := d1.sta.size
      have hsz1 := n1.ext.size
      have hd3 : Fresh w3 b t := d3.sta0 (K := K) (.of_ext n3.ext)
      have dm := (d1.ext n3.ext).pushIf d4 (by have := hI'.sta.size; omega) (Nat.lt_of_lt_of_le hblt n3.ext.size) hd3 hpu
      exact fin1 (.inl rfl) rfl rfl ⟨_, _, (dm.before n1.ext).le (by omega), (((RT.ext n3.ext d2).sta hpu.2 (by omega)).le (Gs.gle_seal ..).le).mono fun d _ hd => Nat.le_trans hsz1 hd, _, _, rfl⟩
end Go.Proofs.YtpiegpegjbmlkaaGreatDoor
namespace Go.Proofs.YtpiegpegjbmlkaaGreatDoor
open Go Go.Kd
set_option maxRecDepth 100000

theorem typ_basic (D : List De) (K : Cfg) (i : Nat) (t : Ty) (hk : t.kind = 0) : TypC D K i t := by
  intro s w bb made p cs hx ha hb
  replace hb : wt t + made.length ≤ 268435456 := hb
  obtain ⟨a, cp, rfl, hv⟩ := ha.open
  obtain ⟨v, hs⟩ := ha.sh
  have hn0 := hs.shape.n0 (by rw [hk]; simp [limitN])
  have hn1 := hs.shape.n1 (by rw [hk]; simp [limitN])
  rw [hk] at hn1
  have hn2 : t.n < 22 := by simpa [limitN] using hn1
  have hl : tyc t a cp = tyl 0 t.n t.count t.vr (.slice a t.elems.length cp) t.name t.tag t.emb := by unfold tyc; rw [hk]
  rw [hl]
  refine W.enter (args := [pt bb, .agg (tyl 0 t.n t.count t.vr (.slice a t.elems.length cp) t.name t.tag t.emb).toArray]) Tryz.func79 rfl Tryz.ntmps79 rfl rfl ?_
  refine zst ?_
  refine WU.stp rfl rfl rfl (by first | exact stp_box rfl rfl | exact stp_box1 rfl rfl) ?_
  rintro _ w1 ⟨b1, rfl, n1⟩
  refine zst ?_
  refine WU.stp rfl rfl rfl (stp_call rfl (c_basic D K i s w1 bb made t (hx.ext n1.ext) hk hn0 hn2 (by omega) ⟨⟨i, v, hx.il, hs⟩, by show wt t ≤ 268435456; omega, ha.lg⟩)) ?_
  rintro r w2 hr
  refine zst ?_
  exact fin1 (.inl rfl) rfl rfl (hr.before n1.ext)
theorem c_typ (D : List De) (K : Cfg) (i : Nat) : ∀ (n : Nat) (t : Ty), wt t ≤ n → TypC D K i t := by
  intro n
  induction n with
  | zero => intro t ht; have := wt_pos t; omega
  | succ n ih =>
    intro t ht s w bb made p cs hx ha hb
    obtain ⟨v, hs⟩ := ha.sh
    have h0 := hs.shape.lo
    have h9 := hs.shape.hi
    have hel : ∀ (j : Nat) e, t.elems[j]? = some e → TypC D K i e := fun j e he => ih e (by have := wt_el he; omega)
    have key : TypC D K i t := by
      rcases (show t.kind = 0 ∨ t.kind = 1 ∨ t.kind = 2 ∨ t.kind = 3 ∨ t.kind = 4 ∨ t.kind = 5 ∨ t.kind = 6 ∨ t.kind = 7 ∨ t.kind = 8 ∨ t.kind = 9 by omega) with h | h | h | h | h | h | h | h | h | h
      · exact typ_basic D K i t h
      · exact typ_named D K i t h
      · exact typ_pointer D K i t h hel
      · exact typ_slice D K i t h hel
      · exact typ_array D K i t h hel
      · exact typ_map D K i t h hel
      · exact typ_chan D K i t h hel
      · exact typ_struct D K i t h hel
      · exact typ_func D K i t h hel
      · exact typ_iface D K i t h fun e he => ih e (by omega)
    exact key s w bb made p cs hx ha hb
theorem c_typ' (D : List De) (K : Cfg) (i : Nat) (t : Ty) : TypC D K i t := c_typ D K i _ t (Nat.le_refl _)
end Go.Proofs.YtpiegpegjbmlkaaGreatDoor
namespace Go.Kd
variable {P : Program} {e : Env} {w : World} {d : Option Tmp} {ty t t2 : TypeId} {pos : String} {aft : Array Edge} {g : Option (Nat × Bool)} {x y z : Operand}
theorem run_call_or {f : FuncId} {fn : Go.Func} (hf : P.funcs[f]? = some fn) (hname : (fn.name == "runtime.NumGoroutine") = false) (hb : fn.body.isNone = true) (hn : Extern.findNext fn = none) (k : IntKind)
    (he : Extern.find fn = some (Extern.Atomic.update (Op.intBits .or) k false)) {a : Addr} {x y s : Int} {w : World} (hc : w.cell? a = some (.int k x)) (hz : w.frozen? a = false)
    (hs : (Op.intBits .or k x y).run P w = .ok (.int k s) w) :
    (callFunc f #[.pointer (some a), .int k y]).run P w = .ok (.value (.int k x)) (w.setCell a (.int k s)) := by
  rw [run_callFunc_extern hf hname hb hn he]
  change (Sem.run P (do
    let a' ← asAddr (.pointer (some a))
    let old ← Extern.Atomic.read (.int k) a'
    let new ← Op.intBits .or k (← asInt old) (← asInt (.int k y))
    store a' new .atomic
    pure (if false then new else old)) w).andThen _ = _
  simp [Extern.Atomic.read, asAddr, asInt, asIntOf, hc, hz, hs, run_store P w a (.int k s) .atomic rfl, Result.andThen]
theorem stp_callv {k : FuncId} {args : List Operand} {tys : Array TypeId} {vs : List Value} {v : Value} {w' : World} (ha : evs e args = some vs) (hr : (callFunc k vs.toArray).run P w = .ok (.value v) w') :
    Stp P e ⟨d, .call ⟨.value (.func k), args.toArray, tys⟩, ty, pos, aft, g⟩ w (fun v' w'' => v' = v ∧ w'' = w') := ⟨fun ρ hρ => by
  have hv : args.toArray.map ρ = vs.toArray := by rw [← evs_spec hρ args vs ha]; simp
  have h1 : ρ (.func k) = .func (.func k) #[] #[] := hρ _ _ rfl
  simp only [execOp, resolve, hv, h1, Deferred.ofValue, invoke, Sem.run_bind, Sem.run_pure, Result.andThen_ok, Array.append_empty, Array.empty_append]
  rw [hr]
  exact ⟨rfl, rfl⟩⟩
theorem Upd.setCell {w : World} {b i : Nat} {cs : Array Value} {t : TypeId} (h : Has w b (.cells cs t (0, 0))) (v : Value) : Upd w b (.cells (cs.setIfInBounds i v) t (0, 0)) (w.setCell ⟨b, i, none⟩ v) := by
  have hl := h.lt
  have hat := h.at_
  refine ⟨⟨?_⟩, fun c hc => ?_, ?_, rfl, rfl, rfl⟩
  · unfold World.setCell
    simp only
    rw [Array.getElem?_modify, if_pos rfl, hat]
    rfl
  · unfold World.setCell
    simp only
    rw [Array.getElem?_modify, if_neg (Ne.symm hc)]
  · unfold World.setCell
    simp
theorem Upd.trans {w w2 w3 : World} {b : Nat} {o o' : Obj} (h : Upd w b o w2) (k : Upd w2 b o' w3) : Upd w b o' w3 :=
  ⟨k.has, fun c hc => (k.oth c hc).trans (h.oth c hc), k.size.trans h.size, k.os.trans h.os, k.tape.trans h.tape, k.output.trans h.output⟩
theorem Has.frozen {w : World} {b i : Nat} {cs : Array Value} {t : TypeId} (h : Has w b (.cells cs t (0, 0))) : w.frozen? ⟨b, i, none⟩ = false := by
  unfold World.frozen?
  rw [h.at_]
  simp
/-- a call is put off -/
theorem WU.defer {n : Nat} {ops : List Oper} {Q : Post} {D : List Deferred} {rest : List Oper} {k : FuncId} {args : List Operand} {tys : Array TypeId} {vs : List Value} (ha : evs e args = some vs)
    (hk : WU P n ops Q rest ({ target := .fn (.func k) #[], args := vs.toArray } :: D) e w) : WU P n ops Q (⟨none, .defer ⟨.value (.func k), args.toArray, tys⟩, ty, pos, aft, none⟩ :: rest) D e w := ⟨fun a hfa => by
  unfold wpList
  rw [wn_spec (r := true) rfl hfa, if_pos rfl]
  left
  have hv : args.toArray.map a.eval = vs.toArray := by rw [← evs_spec hfa.ag args vs ha]; simp
  have h1 : a.eval (.func k) = .func (.func k) #[] #[] := hfa.ag _ _ rfl
  have he : (execOp a.eval ⟨none, .defer ⟨.value (.func k), args.toArray, tys⟩, ty, pos, aft, none⟩).run P w = .ok (.defer { target := .fn (.func k) #[], args := vs.toArray }) w := by
    simp only [execOp, resolve, hv, h1, Deferred.ofValue, Sem.run_bind, Sem.run_pure, Result.andThen_ok, Array.empty_append]
  unfold Oper.wp
  rw [he]
  exact hk.out _ ⟨hfa.size, by show _ :: a.defers = _; rw [hfa.defers], hfa.get⟩⟩
/-- a function that puts off one call -/
theorem W.enterD {k : Nat} {fn : Go.Func} {c : Code} {args : List Value} {w : World} {R : Value → World → Prop} {n : Nat} (hf : P.funcs[k]? = some fn) (hb : fn.body = some c)
    (hn : fn.ntmps = n) (hl : Nat.ble args.length n = true) {e : Env} (he : argO args = some e) (hres : fn.results = #[])
    (h : W P n c (fun x D _ w' => (x = .ret ∨ x = .normal) ∧ ∃ f ag fnf, D = [{ target := .fn (.func f) #[], args := ag }] ∧ P.funcs[f]? = some fnf ∧ (fnf.name == "runtime.NumGoroutine") = false ∧ fnf.body.isNone = false ∧
      CallsD P f ag .returning w' fun x u w'' => u = .returning ∧ ∃ v, x = .returned v ∧ R (.tuple #[]) w'') [] e w) : Calls P k args.toArray w (Ret R) := by
  refine calls_of_wp_defers hf hb (wp_mono ((argO_eq args e he ▸ h : W P n c _ [] (argE args 0) w).out { tmps := args.toArray ++ Array.replicate (fn.ntmps - args.toArray.size) undef, defers := [] } ⟨by have := Nat.le_of_ble_eq_true hl; simp; omega, rfl, fun i v hi => by
      obtain ⟨_, h2⟩ := argE_lk args 0 i v hi
      simp only [Nat.sub_zero] at h2
      have : i < args.length := (List.getElem?_eq_some_iff.1 h2).1
      rw [Array.getElem?_append_left (by simpa using this)]
      simpa using h2⟩) fun x a' w' hx => ?_)
  have fin : ∀ (a' : Act) D' e' f ag fnf, Fr n D' e' a' → D' = [{ target := .fn (.func f) #[], args := ag }] → P.funcs[f]? = some fnf → (fnf.name == "runtime.NumGoroutine") = false → fnf.body.isNone = false →
      (CallsD P f ag .returning w' fun x u w'' => u = .returning ∧ ∃ v, x = .returned v ∧ R (.tuple #[]) w'') → Leaves P fn a'.tmps (Ret R) a'.defers .returning w' := fun a' D' e' f ag fnf ha hD h1 h2 h3 h4 => by
    rw [ha.defers, hD]
    refine ⟨fun h => (by cases h), .func f, #[], f, ag, rfl, ?_, ?_⟩
    · simp only [invoke, callFunc, program, bind, Sem.bind, Sem.run, pure, h1, h2, h3, Bool.false_eq_true, if_false, Array.append_empty]
    · intro c cs hc
      obtain ⟨e2, u', w'', fr, hR, rest⟩ := h4 c cs hc
      obtain ⟨rfl, v, rfl, hR'⟩ := hR
      refine ⟨.returned v, .returning, w'', fr, ?_, rest⟩
      exact ⟨_, run_results (vs := []) ha (by rw [hres]; exact .nil), _, rfl, hR'⟩
  cases x with
  | normal => obtain ⟨D', e', ha, -, f, ag, fnf, h1, h2, h3, h4, h5⟩ := hx; exact fin _ D' e' f ag fnf ha h1 h2 h3 h4 h5
  | ret => obtain ⟨D', e', ha, -, f, ag, fnf, h1, h2, h3, h4, h5⟩ := hx; exact fin _ D' e' f ag fnf ha h1 h2 h3 h4 h5
  | panic ch => exact hx.elim
  | outgrown => exact hx.elim
  | exit id => obtain ⟨_, _, _, h, _⟩ := hx; rcases h with h | h <;> cases h
  | goto l => obtain ⟨_, _, _, h, _⟩ := hx; rcases h with h | h <;> cases h
end Go.Kd
namespace Go.Proofs.YtpiegpegjbmlkaaGreatDoor
open Go Go.Kd
set_option maxRecDepth 100000

abbrev muLink : Go.Conc.Locks.MuLink := { lock := 121, unlock := 122, ilock := 155, iunlock := 156, lockSlow := 179, unlockSlow := 182, disable := 175, enable := 177, acquire := 178, relMerge := 180, cas32 := 176, add32 := 181, tMutex := 183, tIMutex := 181, tPMutex := 267, tPIMutex := 292, tPI32 := 294, tUP := 296, tNoCopy := 178, tU32 := 179 }
theorem muLib : Go.Conc.Locks.MuLib Tryz.prog muLink :=
  ⟨Tryz.func121, Tryz.func122, Tryz.func155, Tryz.func156, Tryz.func175, Tryz.func177, Tryz.func178, Tryz.func180, Tryz.func176, Tryz.func181,
   Tryz.underlying181, Tryz.runUnderlying181, Tryz.sizeOf181, Tryz.isAgg181, Tryz.zeroValue181, Tryz.underlying183, Tryz.runUnderlying183, Tryz.sizeOf183, Tryz.isAgg183, Tryz.zeroValue183, Tryz.underlying267, Tryz.runUnderlying267, Tryz.sizeOf267, Tryz.isAgg267, Tryz.zeroValue267,
   Tryz.underlying292, Tryz.runUnderlying292, Tryz.sizeOf292, Tryz.isAgg292, Tryz.zeroValue292, Tryz.underlying294, Tryz.runUnderlying294, Tryz.sizeOf294, Tryz.isAgg294, Tryz.zeroValue294, Tryz.underlying296, Tryz.runUnderlying296, Tryz.sizeOf296, Tryz.isAgg296, Tryz.zeroValue296,
   Tryz.underlying178, Tryz.runUnderlying178, Tryz.sizeOf178, Tryz.isAgg178, Tryz.zeroValue178, Tryz.underlying21, Tryz.runUnderlying21, Tryz.sizeOf21, Tryz.isAgg21, Tryz.zeroValue21, (by kernel_rfl)⟩

/-- a named type's cells -/
abbrev nmc (obj : Value) (nilOk : Bool) (mu st : Int) (rhs u ms : Value) : Array Value := #[.pointer none, obj, .bool nilOk, .int .i32 mu, .int .u32 0, .int .u32 st, rhs, u, .bool false, ms]
def NamV (w : World) (b : Nat) (obj u ms : Value) : Prop := Has w b (.cells (nmc obj false 0 15 u u ms) tNM)
theorem c_stateHas (b : Nat) (m : Int) (obj u ms : Value) (w : World) (h : NamV w b obj u ms) (hm : m = 3 ∨ m = 8) : Calls Tryz.prog 158 #[pt b, .int .u32 m] w (Ret fun r w' => r = .bool true ∧ w = w') := by
  have h' : Has w b (.cells (nmc obj false 0 15 u u ms) tNM) := h
  refine W.enter (args := [pt b, .int .u32 m]) Tryz.func158 rfl Tryz.ntmps158 rfl rfl ?_
  refine zst ?_
  refine WU.stp rfl rfl rfl (stp_callv rfl (run_call_load Tryz.func183 (by kernel_rfl) (by kernel_rfl) (by kernel_rfl) .u32 (by kernel_rfl) (cell_of h' (i := 5) rfl))) ?_
  rintro _ _ ⟨rfl, rfl⟩
  rcases hm with rfl | rfl
  · refine zst ?_
    refine WU.yld rfl rfl rfl (yld_and rfl rfl) ?_
    refine zst ?_
    exact fin1 (.inl rfl) rfl rfl ⟨rfl, rfl⟩
  · refine zst ?_
    refine WU.yld rfl rfl rfl (yld_and rfl rfl) ?_
    refine zst ?_
    exact fin1 (.inl rfl) rfl rfl ⟨rfl, rfl⟩
end Go.Proofs.YtpiegpegjbmlkaaGreatDoor
namespace Go.Proofs.YtpiegpegjbmlkaaGreatDoor
open Go Go.Kd
set_option maxRecDepth 100000

abbrev tNP : Nat := 117
theorem run_or07 (P : Program) (w : World) : (Op.intBits .or .u32 0 7).run P w = .ok (.int .u32 7) w := by simp [Op.intBits]; decide
theorem run_or78 (P : Program) (w : World) : (Op.intBits .or .u32 7 8).run P w = .ok (.int .u32 15) w := by simp [Op.intBits]; decide
theorem c_setState (b : Nat) (m x s : Int) (obj rhs u ms : Value) (n0 : Bool) (mu : Int) (w : World) (h : Has w b (.cells (nmc obj n0 mu x rhs u ms) tNM)) (hs : ∀ w, (Op.intBits .or .u32 x m).run Tryz.prog w = .ok (.int .u32 s) w) :
    Calls Tryz.prog 123 #[pt b, .int .u32 m] w (Ret fun _ w' => Upd w b (.cells (nmc obj n0 mu s rhs u ms) tNM) w') := by
  refine W.enter (args := [pt b, .int .u32 m]) Tryz.func123 rfl Tryz.ntmps123 rfl rfl ?_
  refine zst ?_
  refine WU.stp rfl rfl rfl (stp_callv rfl (run_call_or Tryz.func157 (by kernel_rfl) (by kernel_rfl) (by kernel_rfl) .u32 (by kernel_rfl) (cell_of h (i := 5) rfl) (Has.frozen h) (hs w))) ?_
  rintro _ _ ⟨rfl, rfl⟩
  refine zst ?_
  have hu := Upd.setCell (i := 5) h (.int .u32 s)
  exact fin0 (.inr rfl) rfl hu
theorem c_asNamed_no (T : Nat) (v : Value) (w : World) (h1 : Nat.beq T tAL = false) (h2 : Nat.beq T tNP = false) : Calls Tryz.prog 97 #[.iface T v] w (Ret fun r w' => r = .pointer none ∧ w = w') := by
  refine W.enter (args := [.iface T v]) Tryz.func97 rfl Tryz.ntmps97 rfl rfl ?_
  refine zst ?_
  refine WU.stp rfl rfl rfl (stp_call rfl (c_Unalias_no T v w h1)) ?_
  rintro _ _ ⟨rfl, rfl⟩
  refine zst ?_
  exact fin1 (.inl rfl) rfl rfl ⟨rfl, rfl⟩
theorem c_Unalias_nil (w : World) : Calls Tryz.prog 102 #[.nilIface] w (Ret fun r w' => r = .nilIface ∧ w = w') := by
  refine W.enter (args := [.nilIface]) Tryz.func102 rfl Tryz.ntmps102 rfl rfl ?_
  refine zst ?_
  exact fin1 (.inl rfl) rfl rfl ⟨rfl, rfl⟩
theorem c_asNamed_nil (w : World) : Calls Tryz.prog 97 #[.nilIface] w (Ret fun r w' => r = .pointer none ∧ w = w') := by
  refine W.enter (args := [.nilIface]) Tryz.func97 rfl Tryz.ntmps97 rfl rfl ?_
  refine zst ?_
  refine WU.stp rfl rfl rfl (stp_call rfl (c_Unalias_nil w)) ?_
  rintro _ _ ⟨rfl, rfl⟩
  refine zst ?_
  exact fin1 (.inl rfl) rfl rfl ⟨rfl, rfl⟩
set_option maxHeartbeats 2000000 in
theorem c_SetUnderlying (b ub T : Nat) (obj ms : Value) (n0 : Bool) (w : World) (h : Has w b (.cells (nmc obj n0 0 0 .nilIface .nilIface ms) tNM)) (h1 : Nat.beq T tAL = false) (h2 : Nat.beq T tNP = false) :
    Calls Tryz.prog 80 #[pt b, .iface T (pt ub)] w (Ret fun _ w' => Upd w b (.cells (nmc obj false 0 15 (.iface T (pt ub)) (.iface T (pt ub)) ms) tNM) w') := by
  refine W.enterD (args := [pt b, .iface T (pt ub)]) Tryz.func80 rfl Tryz.ntmps80 rfl rfl rfl ?_
  refine zst ?_
  refine WU.stp rfl rfl rfl (stp_call rfl (c_asNamed_no T _ w h1 h2)) ?_
  rintro _ _ ⟨rfl, rfl⟩
  refine zst ?_
  have hlock : Calls Tryz.prog 121 #[.pointer (some ⟨b, 3, none⟩)] w (Ret fun _ w' => w' = w.setCell ⟨b, 3, none⟩ (.int .i32 1)) :=
    (Go.MuLone.lock_free muLib ⟨b, 3, none⟩ w (cell_of h rfl) (Has.frozen h)).mono fun e w' ⟨he, hw⟩ => ⟨_, he, hw⟩
  refine WU.stp rfl rfl rfl (stp_call rfl hlock) ?_
  rintro v w1 hw1
  have u1 := Upd.setCell (i := 3) h (.int .i32 1)
  rw [← hw1] at u1
  have k1 : Has w1 b (.cells (nmc obj n0 1 0 .nilIface .nilIface ms) tNM) := u1.has
  refine zst ?_
  refine WU.defer rfl ?_
  refine zst ?_
  refine WU.stp0 rfl rfl (stp_store_cell rfl rfl rfl rfl) ?_
  rintro _ w2 u2
  have k2 := u2.has
  refine zst ?_
  refine WU.stp0 rfl rfl (stp_store_cell rfl rfl rfl rfl) ?_
  rintro _ w3 u3
  have k3 : Has w3 b (.cells (nmc obj false 1 0 (.iface T (pt ub)) .nilIface ms) tNM) := u3.has
  refine zst ?_
  refine WU.stp rfl rfl rfl (stp_call rfl (c_setState b 7 0 7 _ _ _ _ _ _ w3 k3 (run_or07 _))) ?_
  rintro _ w4 u4
  have k4 := u4.has
  refine zst ?_
  refine WU.stp0 rfl rfl (stp_store_cell rfl rfl rfl rfl) ?_
  rintro _ w5 u5
  have k5 : Has w5 b (.cells (nmc obj false 1 7 (.iface T (pt ub)) (.iface T (pt ub)) ms) tNM) := u5.has
  refine zst ?_
  refine WU.stp rfl rfl rfl (stp_call rfl (c_setState b 8 7 15 _ _ _ _ _ _ w5 k5 (run_or78 _))) ?_
  rintro _ w6 u6
  have k6 := u6.has
  refine zst ?_
  refine ⟨.inr rfl, 122, _, _, rfl, Tryz.func122, by kernel_rfl, by kernel_rfl, ?_⟩
  intro c cs hc
  obtain ⟨e2, u', w'', fr, ⟨rfl, rfl, rfl⟩, rest⟩ := Go.MuLone.unlock_deferred muLib ⟨b, 3, none⟩ .returning w6 (cell_of k6 rfl) (Has.frozen k6) c cs hc
  refine ⟨_, _, _, fr, ⟨rfl, _, rfl, ?_⟩, rest⟩
  have u7 := Upd.setCell (i := 3) k6 (.int .i32 0)
  exact (((((u1.trans u2).trans u3).trans u4).trans u5).trans u6).trans u7

/-! ### Underlying types of what is not named -/
theorem c_unpack (b : Nat) (obj u ms : Value) (w : World) (h : NamV w b obj u ms) : Calls Tryz.prog 125 #[pt b] w (Ret fun r w' => r = pt b ∧ w = w') := by
  refine W.enter (args := [pt b]) Tryz.func125 rfl Tryz.ntmps125 rfl rfl ?_
  refine zst ?_
  refine WU.stp rfl rfl rfl (stp_call rfl (c_stateHas b 3 obj u ms w h (.inl rfl))) ?_
  rintro _ _ ⟨rfl, rfl⟩
  refine zst ?_
  exact fin1 (.inl rfl) rfl rfl ⟨rfl, rfl⟩
theorem c_rhs (b : Nat) (obj u ms : Value) (w : World) (h : NamV w b obj u ms) : Calls Tryz.prog 271 #[pt b] w (Ret fun r w' => r = u ∧ w = w') := by
  have h' : Has w b (.cells (nmc obj false 0 15 u u ms) tNM) := h
  refine W.enter (args := [pt b]) Tryz.func271 rfl Tryz.ntmps271 rfl rfl ?_
  refine zst ?_
  exact fin1 (.inl rfl) rfl rfl ⟨rfl, rfl⟩
theorem c_Named_Underlying (b T ub : Nat) (obj ms : Value) (w : World) (h : NamV w b obj (.iface T (pt ub)) ms) : Calls Tryz.prog 269 #[pt b] w (Ret fun r w' => r = .iface T (pt ub) ∧ w = w') := by
  have h' : Has w b (.cells (nmc obj false 0 15 (.iface T (pt ub)) (.iface T (pt ub)) ms) tNM) := h
  refine W.enter (args := [pt b]) Tryz.func269 rfl Tryz.ntmps269 rfl rfl ?_
  refine zst ?_
  refine WU.stp rfl rfl rfl (stp_call rfl (c_unpack b _ _ _ w h)) ?_
  rintro _ _ ⟨rfl, rfl⟩
  refine zst ?_
  refine WU.stp rfl rfl rfl (stp_call rfl (c_rhs b _ _ _ w h)) ?_
  rintro _ _ ⟨rfl, rfl⟩
  refine zst ?_
  refine WU.stp rfl rfl rfl (stp_call rfl (c_stateHas b 8 _ _ _ w h (.inr rfl))) ?_
  rintro _ _ ⟨rfl, rfl⟩
  refine zst ?_
  exact fin1 (.inl rfl) rfl rfl ⟨rfl, rfl⟩
end Go.Proofs.YtpiegpegjbmlkaaGreatDoor
namespace Go.Proofs.YtpiegpegjbmlkaaGreatDoor
open Go Go.Kd
set_option maxRecDepth 100000

abbrev tAB : Nat := 266
def TnV (w : World) (ob : Nat) (pk : Value) (nm : ByteArray) (v : Value) : Prop := Has w ob (.cells #[.int .i64 0, pk, .string nm, v] tTN)
theorem c_newNamed (ob : Nat) (pk : Value) (nm : ByteArray) (w : World) (h : TnV w ob pk nm .nilIface) :
    Calls Tryz.prog 105 #[.pointer none, pt ob, .nilIface, .slice none 0 0] w (Ret fun r w' => ∃ b w1, r = pt b ∧ New w b (.cells (nmc (pt ob) false 0 0 .nilIface .nilIface (.slice none 0 0)) tNM) w1 ∧ Upd w1 ob (.cells #[.int .i64 0, pk, .string nm, .iface tNP (pt b)] tTN) w') := by
  have h' : Has w ob (.cells #[.int .i64 0, pk, .string nm, .nilIface] tTN) := h
  refine W.enter (args := [.pointer none, pt ob, .nilIface, .slice none 0 0]) Tryz.func105 rfl Tryz.ntmps105 rfl rfl ?_
  refine zst ?_
  refine WU.stp rfl rfl rfl (by first | exact stp_box rfl rfl | exact stp_box1 rfl rfl) ?_
  rintro _ w1 ⟨b1, rfl, n1⟩
  have h1 := h'.ext' n1.ext
  refine zst ?_
  refine WU.stp0 rfl rfl (stp_store_cell rfl rfl rfl rfl) ?_
  rintro _ w2 u2
  refine zst ?_
  exact fin1 (.inl rfl) rfl rfl ⟨b1, w1, rfl, n1, u2⟩
theorem c_NewNamed (ob : Nat) (pk : Value) (nm : ByteArray) (w : World) (h : TnV w ob pk nm .nilIface) :
    Calls Tryz.prog 76 #[pt ob, .nilIface, .slice none 0 0] w (Ret fun r w' => ∃ b, r = pt b ∧ w.heap.size ≤ b ∧ Has w' b (.cells (nmc (pt ob) true 0 0 .nilIface .nilIface (.slice none 0 0)) tNM) ∧ TnV w' ob pk nm (.iface tNP (pt b)) ∧ RowKit.Below ob w w') := by
  have h' : Has w ob (.cells #[.int .i64 0, pk, .string nm, .nilIface] tTN) := h
  refine W.enter (args := [pt ob, .nilIface, .slice none 0 0]) Tryz.func76 rfl Tryz.ntmps76 rfl rfl ?_
  refine zst ?_
  refine WU.stp rfl rfl rfl (stp_call rfl (c_asNamed_nil w)) ?_
  rintro _ _ ⟨rfl, rfl⟩
  refine zst ?_
  refine WU.stp rfl rfl rfl (stp_call rfl (c_newNamed ob pk nm w h)) ?_
  rintro _ w2 ⟨b, w1, rfl, n1, u2⟩
  have hbn := n1.num
  have hne : b ≠ ob := by have := h'.lt; omega
  have h2 : Has w2 b (.cells (nmc (pt ob) false 0 0 .nilIface .nilIface (.slice none 0 0)) tNM) := ⟨(u2.oth b hne).trans n1.has.at_⟩
  refine zst ?_
  refine WU.stp0 rfl rfl (stp_store_cell rfl rfl rfl rfl) ?_
  rintro _ w3 u3
  refine zst ?_
  have h3 : Has w3 b (.cells (nmc (pt ob) true 0 0 .nilIface .nilIface (.slice none 0 0)) tNM) := u3.has
  refine fin1 (.inl rfl) rfl rfl ⟨b, rfl, Nat.le_of_eq hbn.symm, h3, ⟨(u3.oth ob (Ne.symm hne)).trans u2.has.at_⟩, ?_⟩
  have hlt := h'.lt
  exact bel_upd (bel_upd (n1.ext.below.mono (Nat.le_of_lt hlt)) u2 (Nat.le_refl _)) u3 (by omega)
theorem c_name (bb : Nat) (p0 p1 ns er md : Value) (e : De) (a1 : Option Addr) (c1 : Nat) (a2 : Option Addr) (c2 : Nat) (pa : Nat → Option Addr) (w : World) (h0 : p0 = .pointer (pa 0)) (h1 : p1 = .pointer (pa 1)) (h : Has w bb (.cells #[p0, p1, ns, er, md] tBU)) (hp : e.pkg = 0 ∨ e.pkg = 1) :
    Calls Tryz.prog 77 #[pt bb, .agg (del e a1 c1 a2 c2).toArray] w (Ret fun r w' => ∃ ob, r = pt ob ∧ w.heap.size ≤ ob ∧ TnV w' ob (.pointer (pa e.pkg.toNat)) e.name .nilIface ∧ Ext w w') := by
  subst h0 h1
  obtain ⟨m, hm⟩ : ∃ m : Nat, e.pkg = m ∧ m < 2 := by
    rcases hp with h | h
    · exact ⟨0, h, by omega⟩
    · exact ⟨1, h, by omega⟩
  have pkc : ∀ W, Has W bb (.cells #[.pointer (pa 0), .pointer (pa 1), ns, er, md] tBU) → W.cell? ⟨bb, m, none⟩ = some (.pointer (pa m)) := fun W h => by
    match m, hm.2 with
    | 0, _ => exact cell_of h rfl
    | 1, _ => exact cell_of h rfl
  unfold del
  rw [hm.1, Int.toNat_natCast]
  refine W.enter (args := [pt bb, .agg #[.string e.name, .int .i64 m, .bool e.al, .int .i64 e.ty.kind, .int .i64 e.ty.n, .int .i64 e.ty.count, .bool e.ty.vr, .slice a1 e.ty.elems.length c1, .string e.ty.name, .string e.ty.tag, .bool e.ty.emb, .slice a2 e.ms.length c2]]) Tryz.func77 rfl Tryz.ntmps77 rfl rfl ?_
  refine zst ?_
  refine WU.stp rfl rfl rfl (by first | exact stp_box rfl rfl | exact stp_box1 rfl rfl) ?_
  rintro _ w1 ⟨b1, rfl, n1⟩
  refine zst ?_
  have ib1 := n1.has
  have hb1 := h.ext' n1.ext
  refine W.regD [(0, .q), (1, .q), (2, .q), (3, .q), (4, .q), (5, .q), (6, .q), (7, .q), (8, .q), (9, .l), (10, .q)] (by kernel_rfl) (by kernel_rfl) rfl ?_
  intro w2 x2 _
  have ib2 := ib1.ext' x2
  have hb2 := hb1.ext' x2
  have hm2 := hm.2
  have hcc := pkc w2 hb2
  refine zsd ?_
  refine WD.yld rfl rfl rfl rfl (yld_indexAddr_arr (i := m) rfl rfl (by omega)) ?_
  refine zsd ?_
  refine WD.yld rfl rfl rfl rfl (yld_load_c rfl hcc) ?_
  refine zsd ?_
  refine WD.stp rfl rfl rfl rfl (stp_call rfl (c_NewTypeName 0 (pa m) e.name w2)) ?_
  rintro _ w3 ⟨ob, rfl, n3⟩
  refine ⟨by first | assumption | exact Ext.rfl' _ | infer_instance, ?_⟩
  refine zsd ?_
  refine zst ?_
  have hge : w.heap.size ≤ ob := by have := n3.num; have := n1.ext.size; have := x2.size; omega
  exact fin1 (.inl rfl) rfl rfl ⟨ob, rfl, hge, n3.has, (n1.ext.trans x2).trans n3.ext⟩
end Go.Proofs.YtpiegpegjbmlkaaGreatDoor
namespace Go.Proofs.YtpiegpegjbmlkaaGreatDoor
open Go Go.Kd
set_option maxRecDepth 100000

/-- from a world to a later one, with more blocks that are read -/
theorem Tr.staM {K : Cfg} {l : Nat} {w w' : World} (x : Sta K l w w') (hl : l ≤ 3) {p q : Nat → Prop} (hq : ∀ d, d < w.heap.size → p d → q d) : Tr K w w' p q := ⟨fun b cs t hp ht h => by
  obtain ⟨cs', h1, h2⟩ := x.has ht h
  exact ⟨hq b h.lt hp, cs', h1, h2.lev hl⟩⟩
theorem Tr.sameM {K : Cfg} {w w' : World} {p q : Nat → Prop} (hs : ∀ b, p b → w'.heap[b]? = w.heap[b]?) (hq : ∀ d, p d → q d) : Tr K w w' p q := ⟨fun b cs _ hp _ h => ⟨hq b hp, cs, ⟨(hs b hp).trans h.at_⟩, .rfl' ..⟩⟩
theorem IfT.tr {K : Cfg} {w w' : World} {p q : Nat → Prop} (x : Tr K w w' p q) {b tb : Nat} (hp : p b) (h : IfT w b (pt tb)) : q b ∧ IfT w' b (pt tb) := by
  obtain ⟨ma, mn, mc', ea, en, ec, h⟩ := h
  obtain ⟨h0, cs', h1, h2⟩ := x.has _ _ _ hp (by decide) h
  obtain ⟨ts', rfl⟩ := h2.ifb
  have h6 := h2.cell 6 (by
    unfold Go.Proofs.YtpiegpegjbmlkaaGreatDoor.mc
    simp only [show ¬ tIF = tTY from by decide, if_false, if_true]
    rfl)
  have : ts' = pt tb := Option.some.inj h6
  subst this
  exact ⟨h0, ma, mn, mc', ea, en, ec, h1⟩
/-- the term list of all types; the blocks that are read: p -/
def AllQ (w : World) (p : Nat → Prop) (v : Value) : Prop := ∃ a c tb, v = .slice a 1 c ∧ RowQ w p tTP a 1 (fun _ => tb) ∧ p tb ∧ Has w tb (.cells #[.bool false, .nilIface] tTM)
theorem AllQ.tr {K : Cfg} {w w' : World} {p q : Nat → Prop} (x : Tr K w w' p q) {v : Value} (h : AllQ w p v) : AllQ w' q v := by
  obtain ⟨a, c, tb, h1, h2, h3, h4⟩ := h
  obtain ⟨k1, k2⟩ := x.imm h3 h4
  exact ⟨a, c, tb, h1, h2.tr x, k1, k2⟩
theorem AllQ.all {w : World} {p : Nat → Prop} {v : Value} (h : AllQ w p v) : AllT w v := by
  obtain ⟨a, c, tb, h1, h2, _, h4⟩ := h
  exact ⟨a, c, tb, h1, h2.row, h4⟩
/-- a method of a type set -/
def MthO (K : Cfg) (s : Gs) (w : World) (p : Nat → Prop) (m : Mt) (fb : Nat) : Prop :=
  ∃ pk sv, PkOk s m.pkg m.name pk ∧ p fb ∧ FuncV w fb pk m.name sv ∧ RT K s w p sv m.fn ∧ m.fn.kind = 8 ∧ Ident m.name.toList ∧ (m.pkg = 0 ∨ m.pkg = 1) ∧ m.name.size ≤ Big
theorem MthO.tr {K : Cfg} {s : Gs} {w w' : World} {p q : Nat → Prop} (x : Tr K w w' p q) {m : Mt} {fb : Nat} (h : MthO K s w p m fb) : MthO K s w' q m fb := by
  obtain ⟨pk, sv, h1, h2, h3, h4, h5⟩ := h
  obtain ⟨k1, k2⟩ := h3.tr x h2
  exact ⟨pk, sv, h1, k1, k2, h4.tr x, h5⟩
theorem MthO.le {K : Cfg} {s s' : Gs} {w : World} {p : Nat → Prop} (l : s.le s') {m : Mt} {fb : Nat} (h : MthO K s w p m fb) : MthO K s' w p m fb := by
  obtain ⟨pk, sv, h1, h2, h3, h4, h5⟩ := h
  exact ⟨pk, sv, by unfold PkOk at *; rw [l.pk]; exact h1, h2, h3, h4.le l, h5⟩
abbrev cmpM (m m' : Mt) : Int := cmpN m.name.toList (pth m.pkg).toList m'.name.toList (pth m'.pkg).toList
def Srtd (ms : List Mt) : Prop := ∀ (i j : Nat) m m', i < j → ms[i]? = some m → ms[j]? = some m' → cmpM m m' < 0
/-- a type set that has been computed -/
structure TSo (K : Cfg) (s : Gs) (w : World) (p : Nat → Prop) (b tb : Nat) (t : Ty) (ms : List Mt) (fb : Nat → Nat) : Prop where
  pb : p b
  ptb : p tb
  ib : IfT w b (pt tb)
  im : ∃ ms0, IM K.D t ms0 ∧ ms.Perm ms0
  srt : Srtd ms
  tsb : ∃ a c v, Has w tb (.cells #[.bool false, .slice a ms.length c, v, .bool false] tTS) ∧ AllQ w p v ∧ RowQ w p tFN a ms.length fb
  mth : ∀ (i : Nat) m, ms[i]? = some m → MthO K s w s.sl m (fb i)
theorem TSo.tr {K : Cfg} {s : Gs} {w w' : World} {p q : Nat → Prop} (x : Tr K w w' p q) (y : Tr K w w' s.sl s.sl) {b tb : Nat} {t : Ty} {ms : List Mt} {fb : Nat → Nat} (h : TSo K s w p b tb t ms fb) : TSo K s w' q b tb t ms fb := by
  obtain ⟨a, c, v, h1, h2, h3⟩ := h.tsb
  obtain ⟨k1, k2⟩ := h.ib.tr x h.pb
  obtain ⟨k3, k4⟩ := x.imm h.ptb h1
  exact ⟨k1, k3, k2, h.im, h.srt, ⟨a, c, v, k4, h2.tr x, h3.tr x⟩, fun i m hm => (h.mth i m hm).tr y⟩
theorem TSo.le {K : Cfg} {s s' : Gs} {w : World} {p : Nat → Prop} (l : s.le s') (hs : ∀ d, s.sl d → s'.sl d) {b tb : Nat} {t : Ty} {ms : List Mt} {fb : Nat → Nat} (h : TSo K s w p b tb t ms fb) : TSo K s' w p b tb t ms fb :=
  ⟨h.pb, h.ptb, h.ib, h.im, h.srt, h.tsb, fun i m hm => ((h.mth i m hm).le l).tr (.mono fun d _ => hs d)⟩
def TSv (K : Cfg) (s : Gs) (w : World) (p : Nat → Prop) (b : Nat) (t : Ty) : Prop := ∃ tb ms fb, TSo K s w p b tb t ms fb
theorem TSv.tr {K : Cfg} {s : Gs} {w w' : World} {p q : Nat → Prop} (x : Tr K w w' p q) (y : Tr K w w' s.sl s.sl) {b : Nat} {t : Ty} (h : TSv K s w p b t) : TSv K s w' q b t := by
  obtain ⟨tb, ms, fb, h⟩ := h
  exact ⟨tb, ms, fb, h.tr x y⟩
theorem TSv.le {K : Cfg} {s s' : Gs} {w : World} {p : Nat → Prop} (l : s.le s') (hs : ∀ d, s.sl d → s'.sl d) {b : Nat} {t : Ty} (h : TSv K s w p b t) : TSv K s' w p b t := by
  obtain ⟨tb, ms, fb, h⟩ := h
  exact ⟨tb, ms, fb, h.le l hs⟩

/-- only type sets that were not there have been computed -/
structure Cpl (K : Cfg) (w w' : World) : Prop where
  os : w'.os = w.os
  tape : w'.tape = w.tape
  output : w'.output = w.output
  size : w.heap.size ≤ w'.heap.size
  old : ∀ b, b < K.N → b < w.heap.size → w'.heap[b]? = w.heap[b]?
  blk : ∀ (d : Nat) (o : Obj), w.heap[d]? = some o → (∀ cs, o ≠ Obj.cells cs tIF (0, 0)) → w'.heap[d]? = some o
  ifs : ∀ (d : Nat) (cs : Array Value), w.heap[d]? = some (.cells cs tIF (0, 0)) → ∃ cs', w'.heap[d]? = some (.cells cs' tIF (0, 0)) ∧ MOk K 1 d tIF cs cs'
theorem Cpl.sta {K : Cfg} {w w' : World} (x : Cpl K w w') : Sta K 1 w w' := ⟨x.os, x.tape, x.output, x.size, x.old, fun b cs t fz _ _ h => by
    by_cases hi : t = tIF ∧ fz = (0, 0)
    · obtain ⟨rfl, rfl⟩ := hi
      exact x.ifs b cs h
    · exact ⟨cs, x.blk b _ h fun cs' e => by
        cases e
        exact hi ⟨rfl, rfl⟩, .rfl' ..⟩, fun b o _ h ho => x.blk b o h fun cs => ho cs tIF (0, 0)⟩
theorem Cpl.of_ext {K : Cfg} {w w' : World} (x : Ext w w') : Cpl K w w' := ⟨x.below.os, x.below.tape, x.below.output, x.below.size, fun b _ hb => x.below.block b hb, fun d o h _ => by rw [x.below.block d (Array.getElem?_eq_some_iff.1 h).1]; exact h,
  fun d cs h => ⟨cs, by rw [x.below.block d (Array.getElem?_eq_some_iff.1 h).1]; exact h, .rfl' ..⟩⟩
theorem Cpl.rfl' (K : Cfg) (w : World) : Cpl K w w := .of_ext (Ext.rfl' w)
theorem Cpl.trans {K : Cfg} {a b c : World} (h : Cpl K a b) (k : Cpl K b c) : Cpl K a c :=
  ⟨k.os.trans h.os, k.tape.trans h.tape, k.output.trans h.output, Nat.le_trans h.size k.size, fun d hd ha => (k.old d hd (by have := h.size; omega)).trans (h.old d hd ha), fun d o ha ho => k.blk d o (h.blk d o ha ho) ho, fun d cs ha => by
    obtain ⟨cs', h1, h2⟩ := h.ifs d cs ha
    obtain ⟨cs2, h3, h4⟩ := k.ifs d cs' h1
    exact ⟨cs2, h3, h2.trans h4⟩⟩
/-- a store into what is newer -/
theorem Cpl.upd_new {K : Cfg} {w0 w w' : World} {b : Nat} {o : Obj} (h : Cpl K w0 w) (u : Upd w b o w') (hb : w0.heap.size ≤ b) : Cpl K w0 w' :=
  ⟨u.os.trans h.os, u.tape.trans h.tape, u.output.trans h.output, by rw [u.size]; exact h.size, fun d hd ha => by rw [u.oth d (by omega)]; exact h.old d hd ha, fun d o' ha ho => by
    have hlt := (Array.getElem?_eq_some_iff.1 ha).1
    rw [u.oth d (by omega)]; exact h.blk d o' ha ho, fun d cs ha => by
    have hlt := (Array.getElem?_eq_some_iff.1 ha).1
    rw [u.oth d (by omega)]; exact h.ifs d cs ha⟩
/-- what has turned is newer -/
theorem Cpl.bel {K : Cfg} {w0 w w' : World} (h : Cpl K w0 w) (x : RowKit.Below w0.heap.size w w') : Cpl K w0 w' :=
  ⟨x.os.trans h.os, x.tape.trans h.tape, x.output.trans h.output, Nat.le_trans h.size x.size, fun d hd ha => by rw [x.block d ha]; exact h.old d hd ha, fun d o' ha ho => by
    rw [x.block d (Array.getElem?_eq_some_iff.1 ha).1]; exact h.blk d o' ha ho, fun d cs ha => by
    rw [x.block d (Array.getElem?_eq_some_iff.1 ha).1]; exact h.ifs d cs ha⟩
theorem mok_ts {K : Cfg} {l b : Nat} (hl : 1 ≤ l) {ma : Option Addr} {mn mc' : Nat} {ea : Option Addr} {en ec : Nat} {ts : Value} : MOk K l b tIF (ifc ma mn mc' ea en ec (.pointer none)) (ifc ma mn mc' ea en ec ts) := ⟨rfl, fun i hi => by
  have h6 : i ≠ 6 := fun e => by
    subst e
    unfold mc at hi
    simp only [show ¬ tIF = tTY from by decide, if_false, if_true] at hi
    simp [nilP] at hi
    omega
  match i, h6 with
  | 0, _ | 1, _ | 2, _ | 3, _ | 4, _ | 5, _ => rfl
  | i + 7, _ => rfl⟩
/-- the type set is put into the interface -/
theorem Cpl.put {K : Cfg} {w w' : World} {b : Nat} {ma : Option Addr} {mn mc' : Nat} {ea : Option Addr} {en ec : Nat} {ts : Value} (hb : Has w b (.cells (ifc ma mn mc' ea en ec (.pointer none)) tIF)) (u : Upd w b (.cells (ifc ma mn mc' ea en ec ts) tIF) w') (hN : K.N ≤ b) : Cpl K w w' :=
  ⟨u.os, u.tape, u.output, Nat.le_of_eq u.size.symm, fun d hd _ => u.oth d (by omega), fun d o ha ho => by
    by_cases hdb : d = b
    · subst hdb
      have := hb.at_.symm.trans ha
      cases this
      exact absurd rfl (ho _)
    · rw [u.oth d hdb]; exact ha, fun d cs ha => by
    by_cases hdb : d = b
    · subst hdb
      have := hb.at_.symm.trans ha
      cases this
      exact ⟨_, u.has.at_, mok_ts (Nat.le_refl _)⟩
    · exact ⟨cs, by rw [u.oth d hdb]; exact ha, .rfl' ..⟩⟩
theorem IfN.same {w w' : World} {b : Nat} (h : IfN w b) (hs : ∀ cs, Has w b (.cells cs tIF (0, 0)) → w'.heap[b]? = w.heap[b]?) : IfN w' b := by
  obtain ⟨ma, mn, mc', ea, en, ec, h⟩ := h
  exact ⟨ma, mn, mc', ea, en, ec, ⟨(hs _ h).trans h.at_⟩⟩
theorem IfN.ext {w w' : World} {b : Nat} (x : Ext w w') (h : IfN w b) : IfN w' b := h.same fun _ k => x.below.block b k.lt
/-- a known interface's type set is there, or it is to be computed -/
def IfS (K : Cfg) (s : Gs) (w : World) (p : Nat → Prop) (c : Nat) (u : Ty) : Prop := TSv K s w p c u ∨ IfN w c
/-- keys -/
theorem pth_inj {p q : Int} (hp : p = 0 ∨ p = 1) (hq : q = 0 ∨ q = 1) (h : (pth p).toList = (pth q).toList) : p = q := by
  rcases hp with rfl | rfl <;> rcases hq with rfl | rfl <;> first
    | rfl
    | (exfalso
       unfold pth at h
       simp [Lib.toList_data] at h)
theorem idS_key {m m' : Mt} (hi : Ident m.name.toList) (hi' : Ident m'.name.toList) (hp : m.pkg = 0 ∨ m.pkg = 1) (hp' : m'.pkg = 0 ∨ m'.pkg = 1) : idS m.name.toList (pth m.pkg).toList = idS m'.name.toList (pth m'.pkg).toList ↔ keyM m = keyM m' := by
  constructor
  · intro h
    obtain ⟨h1, h2⟩ := idS_inj hi hi' (pth_nodot _) (pth_nodot _) h
    unfold keyM keyOf
    rw [← h1]
    rcases h2 with h2 | h2
    · rw [h2]; rfl
    · rw [pth_inj hp hp' h2]
  · intro h
    unfold keyM keyOf at h
    obtain ⟨h1, h2⟩ := Prod.ext_iff.1 h
    simp only at h1 h2
    unfold idS
    rw [← h1] at h2 ⊢
    cases he : expo m.name.toList
    · rw [he] at h2
      simp only [Bool.false_eq_true, if_false] at h2 ⊢
      rw [h2]
    · rfl
theorem cmpM_key {m m' : Mt} (h : keyM m = keyM m') : cmpM m m' = 0 := by
  unfold keyM keyOf at h
  obtain ⟨h1, h2⟩ := Prod.ext_iff.1 h
  simp only at h1 h2
  unfold cmpM
  rw [← h1] at h2 ⊢
  rw [cmpN_c3, c3_zero]
  refine ⟨rfl, .inr ⟨beq_self_eq_true _, ?_⟩⟩
  cases he : expo m.name.toList
  · rw [he] at h2
    simp only [Bool.false_eq_true, if_false] at h2
    right
    rw [h2]; exact compareBytes_self _
  · exact .inl rfl
theorem Srtd.nodup {ms : List Mt} (h : Srtd ms) : (ms.map keyM).Nodup := by
  rw [List.nodup_iff_pairwise_ne, List.pairwise_iff_getElem]
  intro i j hi hj hij he
  simp only [List.length_map] at hi hj
  simp only [List.getElem_map] at he
  have h1 := h i j ms[i] ms[j] hij (List.getElem?_eq_getElem hi) (List.getElem?_eq_getElem hj)
  rw [cmpM_key he] at h1
  omega
theorem PkOk.pkv {s : Gs} {w : World} (hp : PkgOK s w) {n : Int} {nm : ByteArray} {pk : Value} (hn : n = 0 ∨ n = 1) (h : PkOk s n nm pk) : PkV w nm pk (pth n) := by
  rcases h with rfl | ⟨rfl, h⟩
  · obtain ⟨c, x, h1, h2⟩ := hp n hn
    exact ⟨⟨_, h1⟩, fun _ => ⟨c, x, h1, h2, pth_ne n⟩⟩
  · exact ⟨⟨_, rfl⟩, fun he => by rw [h] at he; cases he⟩
theorem MthO.pkv {K : Cfg} {s : Gs} {w : World} {p : Nat → Prop} (hp : PkgOK s w) {m : Mt} {fb : Nat} (h : MthO K s w p m fb) : ∃ pk sv, FuncV w fb pk m.name sv ∧ PkV w m.name pk (pth m.pkg) := by
  obtain ⟨pk, sv, h1, _, h3, _, _, _, h7, _⟩ := h
  exact ⟨pk, sv, h3, h1.pkv hp h7⟩
/-- what an interface's block holds -/
structure IfD (K : Cfg) (s : Gs) (w : World) (p : Nat → Prop) (b : Nat) (t : Ty) (ma : Option Addr) (c mc' : Nat) (ea : Option Addr) (en ec : Nat) (fb : Nat → Nat) (me : Nat → Ty) (sv ev : Nat → Value) : Prop where
  k9 : (norm t).kind = 9
  cnt : (norm t).count = c
  len : c + en = (norm t).elems.length
  ib : IfB w b ma c mc' ea en ec
  pb : p b
  sg : ∀ i, i < c → RT K s w p (sv i) (me i)
  fn : ∀ i, i < c → ∃ pk, PkOk s (norm t).n (me i).name pk ∧ p (fb i) ∧ FuncV w (fb i) pk (me i).name (sv i)
  pm : ((List.range c).map me).Perm ((norm t).elems.take c)
  em : ∀ (i : Nat) e, (norm t).elems[c + i]? = some e → RT K s w p (ev i) e
  fr : RowQ w p tFN ma c fb
  er : RowT K w p ea en ev
theorem RT.ifd {K : Cfg} {s : Gs} {w : World} {p : Nat → Prop} {b : Nat} {t : Ty} (h : RT K s w p (.iface tPI (pt b)) t) (hi : isIf t) (he : ∀ T v, s.er = .iface T v → T ≠ tPI) (hc : t.kind = 9 → 0 ≤ t.count ∧ t.count ≤ t.elems.length) :
    ∃ ma c mc' ea en ec fb me sv ev, IfD K s w p b t ma c mc' ea en ec fb me sv ev := by
  generalize hv : (Value.iface tPI (pt b)) = v at h
  cases h with
  | basic _ b' i nb h0 h1 h2 => cases hv
  | error _ h0 h1 => exact absurd rfl (he _ _ hv.symm)
  | any _ b' h0 h1 hp h2 h3 =>
    cases hv
    have hn : norm t = anyT := by unfold norm; rw [if_pos h0, if_neg (by omega), if_neg (by omega), if_pos h1]
    exact ⟨none, 0, 0, none, 0, 0, fun _ => 0, fun _ => anyT, fun _ => .nilIface, fun _ => .nilIface, by rw [hn]; rfl, by rw [hn]; rfl, by rw [hn]; rfl, h2, hp, fun i hi => by omega, fun i hi => by omega, by rw [hn]; exact .refl _, fun i e he => by rw [hn] at he; simp [anyT, Ty.elems] at he, fun i hi => by omega, fun i hi => by omega⟩
  | named _ _ h0 => rcases hi with h | h <;> omega
  | ptr _ _ _ _ h0 => rcases hi with h | h <;> omega
  | slice _ _ _ _ h0 => rcases hi with h | h <;> omega
  | array _ _ _ _ h0 => rcases hi with h | h <;> omega
  | map _ _ _ _ _ _ h0 => rcases hi with h | h <;> omega
  | chan _ _ _ _ h0 => rcases hi with h | h <;> omega
  | struct _ _ _ _ _ _ _ _ _ h0 => rcases hi with h | h <;> omega
  | func _ _ _ _ _ _ h0 => rcases hi with h | h <;> omega
  | iface _ b' ma mc' ea ec fb me sv ev h0 h1 h2 h3 h4 hp h5 h6 h7 h8 =>
    cases hv
    have hn : norm t = t := norm_named (by omega)
    replace hc := hc h0
    refine ⟨ma, t.count.toNat, mc', ea, t.elems.length - t.count.toNat, ec, fb, me, sv, ev, by rw [hn]; exact h0, by rw [hn]; omega, by rw [hn]; omega, h5, hp, h1, by rw [hn]; exact h2, by rw [hn]; exact h3, by rw [hn]; exact h4, h6, h7⟩
end Go.Proofs.YtpiegpegjbmlkaaGreatDoor
namespace Go.Proofs.YtpiegpegjbmlkaaGreatDoor
open Go Go.Kd
set_option maxRecDepth 100000

theorem c_Basic_Underlying (b : Nat) (w : World) : Calls Tryz.prog 265 #[pt b] w (Ret fun r w' => r = .iface 109 (pt b) ∧ w = w') := by
  refine W.enter (args := [pt b]) Tryz.func265 rfl Tryz.ntmps265 rfl rfl ?_
  refine zst ?_
  exact fin1 (.inl rfl) rfl rfl ⟨rfl, rfl⟩
theorem c_Pointer_Underlying (b : Nat) (w : World) : Calls Tryz.prog 275 #[pt b] w (Ret fun r w' => r = .iface 128 (pt b) ∧ w = w') := by
  refine W.enter (args := [pt b]) Tryz.func275 rfl Tryz.ntmps275 rfl rfl ?_
  refine zst ?_
  exact fin1 (.inl rfl) rfl rfl ⟨rfl, rfl⟩
theorem c_Array_Underlying (b : Nat) (w : World) : Calls Tryz.prog 258 #[pt b] w (Ret fun r w' => r = .iface 94 (pt b) ∧ w = w') := by
  refine W.enter (args := [pt b]) Tryz.func258 rfl Tryz.ntmps258 rfl rfl ?_
  refine zst ?_
  exact fin1 (.inl rfl) rfl rfl ⟨rfl, rfl⟩
theorem c_Map_Underlying (b : Nat) (w : World) : Calls Tryz.prog 281 #[pt b] w (Ret fun r w' => r = .iface 189 (pt b) ∧ w = w') := by
  refine W.enter (args := [pt b]) Tryz.func281 rfl Tryz.ntmps281 rfl rfl ?_
  refine zst ?_
  exact fin1 (.inl rfl) rfl rfl ⟨rfl, rfl⟩
theorem c_Chan_Underlying (b : Nat) (w : World) : Calls Tryz.prog 283 #[pt b] w (Ret fun r w' => r = .iface 191 (pt b) ∧ w = w') := by
  refine W.enter (args := [pt b]) Tryz.func283 rfl Tryz.ntmps283 rfl rfl ?_
  refine zst ?_
  exact fin1 (.inl rfl) rfl rfl ⟨rfl, rfl⟩
theorem c_Struct_Underlying (b : Nat) (w : World) : Calls Tryz.prog 255 #[pt b] w (Ret fun r w' => r = .iface 75 (pt b) ∧ w = w') := by
  refine W.enter (args := [pt b]) Tryz.func255 rfl Tryz.ntmps255 rfl rfl ?_
  refine zst ?_
  exact fin1 (.inl rfl) rfl rfl ⟨rfl, rfl⟩
theorem c_Signature_Underlying (b : Nat) (w : World) : Calls Tryz.prog 276 #[pt b] w (Ret fun r w' => r = .iface 134 (pt b) ∧ w = w') := by
  refine W.enter (args := [pt b]) Tryz.func276 rfl Tryz.ntmps276 rfl rfl ?_
  refine zst ?_
  exact fin1 (.inl rfl) rfl rfl ⟨rfl, rfl⟩
theorem c_Interface_Underlying (b : Nat) (w : World) : Calls Tryz.prog 263 #[pt b] w (Ret fun r w' => r = .iface 108 (pt b) ∧ w = w') := by
  refine W.enter (args := [pt b]) Tryz.func263 rfl Tryz.ntmps263 rfl rfl ?_
  refine zst ?_
  exact fin1 (.inl rfl) rfl rfl ⟨rfl, rfl⟩
theorem Stp.imp {P : Program} {e : Env} {o : Oper} {w : World} {R R' : Value → World → Prop} (h : Stp P e o w R) (hr : ∀ v w', R v w' → R' v w') : Stp P e o w R' := ⟨fun ρ hρ => by
  have := h.out ρ hρ
  split at this
  · exact hr _ _ this
  · exact hr _ _ this
  · exact this.mono fun x w'' ⟨v, h1, h2⟩ => ⟨v, h1, hr v w'' h2⟩
  · exact this⟩
/-- the types of literals and of predeclared types -/
def litT (T : Nat) : Prop := T = 109 ∨ T = 128 ∨ T = 107 ∨ T = 94 ∨ T = 189 ∨ T = 191 ∨ T = 75 ∨ T = 134 ∨ T = 108
section
variable {e : Env} {w : World} {d : Option Tmp} {ty : TypeId} {pos : String} {aft : Array Edge} {g : Option (Nat × Bool)} {recv : Operand} {tys : Array TypeId}
theorem stp_und_lit {T b : Nat} (hT : litT T) (hr : ev e recv = some (.iface T (pt b))) : Stp Tryz.prog e ⟨d, .call ⟨.invoke recv "Underlying", #[], tys⟩, ty, pos, aft, g⟩ w (fun r w' => r = .iface T (pt b) ∧ w = w') := by
  rcases hT with rfl | rfl | rfl | rfl | rfl | rfl | rfl | rfl | rfl
  · exact stp_invoke (args := []) (vs := []) hr rfl (c_Basic_Underlying b w)
  · exact stp_invoke (args := []) (vs := []) hr rfl (c_Pointer_Underlying b w)
  · exact stp_invoke (args := []) (vs := []) hr rfl (c_Slice_Underlying b w)
  · exact stp_invoke (args := []) (vs := []) hr rfl (c_Array_Underlying b w)
  · exact stp_invoke (args := []) (vs := []) hr rfl (c_Map_Underlying b w)
  · exact stp_invoke (args := []) (vs := []) hr rfl (c_Chan_Underlying b w)
  · exact stp_invoke (args := []) (vs := []) hr rfl (c_Struct_Underlying b w)
  · exact stp_invoke (args := []) (vs := []) hr rfl (c_Signature_Underlying b w)
  · exact stp_invoke (args := []) (vs := []) hr rfl (c_Interface_Underlying b w)
theorem stp_und_named {b T ub : Nat} {obj ms : Value} (h : NamV w b obj (.iface T (pt ub)) ms) (hr : ev e recv = some (.iface tNP (pt b))) : Stp Tryz.prog e ⟨d, .call ⟨.invoke recv "Underlying", #[], tys⟩, ty, pos, aft, g⟩ w (fun r w' => r = .iface T (pt ub) ∧ w = w') :=
  stp_invoke (args := []) (vs := []) hr rfl (c_Named_Underlying b T ub obj ms w h)
end
theorem litT.ne {T : Nat} (h : litT T) : Nat.beq T tAL = false ∧ Nat.beq T tNP = false ∧ Nat.beq T 112 = false ∧ Nat.beq T 113 = false := by
  rcases h with rfl | rfl | rfl | rfl | rfl | rfl | rfl | rfl | rfl <;> exact ⟨rfl, rfl, rfl, rfl⟩
/-- the dynamic type of a literal -/
def dynT (t : Ty) : Nat := if t.kind = 0 then (if t.n = 21 then tPI else 109) else if t.kind = 2 then 128 else if t.kind = 3 then 107 else if t.kind = 4 then 94 else if t.kind = 5 then 189 else if t.kind = 6 then 191
  else if t.kind = 7 then 75 else if t.kind = 8 then 134 else tPI
theorem dynT_lit (t : Ty) : litT (dynT t) := by
  unfold dynT
  repeat' split
  all_goals (unfold litT; decide)
/-- no declared type -/
def isLit (t : Ty) : Prop := t.kind ≠ 1 ∧ ¬ (t.kind = 0 ∧ t.n = 20)
theorem RT.lit {K : Cfg} {s : Gs} {w : World} {p : Nat → Prop} {v : Value} {t : Ty} (h : RT K s w p v t) (hl : isLit t) : ∃ b, v = .iface (dynT t) (pt b) ∧ p b ∧ s.g b = some t := by
  obtain ⟨l1, l2⟩ := hl
  cases h with
  | basic _ b i nb h0 h1 h2 hp h3 h4 => exact ⟨b, by unfold dynT; rw [if_pos h0, if_neg (by omega)], hp, h4⟩
  | error _ h0 h1 => exact absurd ⟨h0, h1⟩ l2
  | any _ b h0 h1 hp h2 h3 => exact ⟨b, by unfold dynT; rw [if_pos h0, if_pos h1], hp, h3⟩
  | named _ _ h0 => exact absurd h0 l1
  | ptr _ e v b h0 h1 _ hp h3 h4 => exact ⟨b, by unfold dynT; simp [h0], hp, h4⟩
  | slice _ e v b h0 h1 _ hp h3 h4 => exact ⟨b, by unfold dynT; simp [h0], hp, h4⟩
  | array _ e v b h0 h1 _ hp h3 h4 => exact ⟨b, by unfold dynT; simp [h0], hp, h4⟩
  | map _ k e u v b h0 h1 _ _ hp h3 h4 => exact ⟨b, by unfold dynT; simp [h0], hp, h4⟩
  | chan _ e v b h0 h1 _ hp h3 h4 => exact ⟨b, by unfold dynT; simp [h0], hp, h4⟩
  | struct _ b fa fc ta tc vb vv tg h0 _ h2 hp h3 h4 h5 h6 => exact ⟨b, by unfold dynT; simp [h0], hp, h6⟩
  | func _ b ps rs vb vv h0 _ h2 hp h3 h4 h5 h6 => exact ⟨b, by unfold dynT; simp [h0], hp, h6⟩
  | iface _ b ma mc ea ec fb me sv ev h0 _ h2 h3 _ hp h5 h6 h7 h8 => exact ⟨b, by unfold dynT; simp [h0], hp, h8⟩
theorem RT.nam {K : Cfg} {s : Gs} {w : World} {p : Nat → Prop} {v : Value} {t : Ty} (h : RT K s w p v t) (hk : t.kind = 1) : s.nm t.n.toNat = some v := by
  cases h <;> first
    | omega
    | assumption
theorem RT.err {K : Cfg} {s : Gs} {w : World} {p : Nat → Prop} {v : Value} {t : Ty} (h : RT K s w p v t) (hk : t.kind = 0) (hn : t.n = 20) : v = s.er := by
  cases h <;> first
    | omega
    | rfl

/-- a declared type's value, as far as it is made -/
inductive DclV (K : Cfg) (s : Gs) (w : World) (n : Nat) (e : De) : Bool → Prop
  | def0 (b ob : Nat) : e.al = false → s.nm n = some (.iface tNP (pt b)) → s.g b = some (tN n) → TnV w ob (s.pk e.pkg) e.name (.iface tNP (pt b)) → Has w b (.cells (nmc (pt ob) true 0 0 .nilIface .nilIface (.slice none 0 0)) tNM) → DclV K s w n e false
  | def1 (b ob : Nat) (u ms : Value) (y : Ty) : e.al = false → s.nm n = some (.iface tNP (pt b)) → s.g b = some (tN n) → TnV w ob (s.pk e.pkg) e.name (.iface tNP (pt b)) → NamV w b (pt ob) u ms → RT K s w s.sl u y → isLit y → underT K.D (tN n) = norm y → DclV K s w n e true
  | al0 : e.al = true → DclV K s w n e false
  | al1 (b ob : Nat) (v v1 : Value) (y : Ty) : e.al = true → s.nm n = some (.iface tAL (pt b)) → TnV w ob (s.pk e.pkg) e.name (.iface tAL (pt b)) → Has w b (.cells #[pt ob, pt b, v, v1] tAB) → RT K s w s.sl v e.ty → IsI v → RT K s w s.sl v1 y → IsI v1 → isAl K.D y = false → unaliasT K.D (tN n) = norm y →
      (y.kind = 1 → 0 ≤ y.n ∧ y.n < n) → DclV K s w n e true
/-- the first i declarations are made -/
def DclI (K : Cfg) (s : Gs) (w : World) (i : Nat) : Prop := ∀ (n : Nat) e, K.D[n]? = some e → DclV K s w n e (decide (n < i))
/-- error -/
def ErrI (K : Cfg) (s : Gs) (w : World) : Prop := ∃ b ob u ms nm, s.er = .iface tNP (pt b) ∧ s.g b = some errB ∧ TnV w ob (.pointer none) nm s.er ∧ NamV w b (pt ob) u ms ∧ RT K s w s.sl u errT
theorem NamV.sta {K : Cfg} {l : Nat} {w w' : World} (x : Sta K l w w') {b ob T ub : Nat} {ms : Value} (h : NamV w b (pt ob) (.iface T (pt ub)) ms) : ∃ ms', NamV w' b (pt ob) (.iface T (pt ub)) ms' := by
  obtain ⟨cs', k1, k2⟩ := x.has (by decide) h
  have hs : cs'.size = 10 := k2.size
  have hc : ∀ i, i ≠ 9 → cs'[i]? = (nmc (pt ob) false 0 15 (.iface T (pt ub)) (.iface T (pt ub)) ms)[i]? := fun i hi => k2.cell i (by
    unfold mc
    simp only [show ¬ tNM = tTY from by decide, show ¬ tNM = tIF from by decide, show ¬ tNM = tSG from by decide, if_false, if_true]
    simp [nilI, hi])
  refine ⟨cs'[9], ?_⟩
  have : cs' = nmc (pt ob) false 0 15 (.iface T (pt ub)) (.iface T (pt ub)) cs'[9] := by
    apply Array.ext_getElem?
    intro i
    by_cases hi : i = 9
    · subst hi; simp [hs]
    · rw [hc i hi]
      match i, hi with
      | 0, _ | 1, _ | 2, _ | 3, _ | 4, _ | 5, _ | 6, _ | 7, _ | 8, _ => rfl
      | i + 10, _ => rw [Array.getElem?_eq_none (by simp), Array.getElem?_eq_none (by simp)]
  unfold NamV
  rw [← this]; exact k1
theorem TnV.sta {K : Cfg} {l : Nat} {w w' : World} (x : Sta K l w w') {ob T : Nat} {pk v : Value} {nm : ByteArray} (h : TnV w ob pk nm (.iface T v)) : TnV w' ob pk nm (.iface T v) := by
  obtain ⟨cs', k1, k2⟩ := x.has (by decide) h
  have hc : ∀ i, cs'[i]? = (#[Value.int .i64 0, pk, .string nm, .iface T v] : Array Value)[i]? := fun i => k2.cell i (by
    unfold mc
    simp only [show ¬ tTN = tTY from by decide, show ¬ tTN = tIF from by decide, show ¬ tTN = tSG from by decide, show ¬ tTN = tNM from by decide, if_false, if_true]
    by_cases hi : i = 3
    · subst hi; simp [nilI]
    · simp [hi])
  have : cs' = #[Value.int .i64 0, pk, .string nm, .iface T v] := Array.ext_getElem? hc
  unfold TnV
  rw [← this]; exact k1
theorem RT.isI {K : Cfg} {s : Gs} {w : World} {p : Nat → Prop} {v : Value} {t : Ty} (h : RT K s w p v t) (hl : isLit t) : IsI v := by
  obtain ⟨b, h1, _⟩ := h.lit hl
  exact ⟨_, b, h1⟩
theorem DclV.sta1 {K : Cfg} {l : Nat} {s : Gs} {w w' : World} (x : Sta K l w w') (hl : l ≤ 3) {n : Nat} {e : De} (h : DclV K s w n e true) : DclV K s w' n e true := by
  cases h with
  | def1 b ob u ms y h1 h2 h3 h4 h5 h6 h7 h8 =>
    obtain ⟨T, ub, rfl⟩ := h6.isI h7
    obtain ⟨ms', h5'⟩ := h5.sta x
    exact .def1 b ob _ ms' y h1 h2 h3 (h4.sta x) h5' (h6.sta x hl) h7 h8
  | al1 b ob v v1 y h1 h2 h3 h4 h5 h6 h7 h8 h9 h10 h11 => exact .al1 b ob v v1 y h1 h2 (h3.sta x) (Has.sta x h4) (h5.sta x hl) h6 (h7.sta x hl) h8 h9 h10 h11
theorem DclI.sta {K : Cfg} {l : Nat} {s : Gs} {w w' : World} (x : Sta K l w w') (hl : l ≤ 3) (h : DclI K s w K.D.length) : DclI K s w' K.D.length := fun n e he => by
  have := h n e he
  rw [decide_eq_true (List.getElem?_eq_some_iff.1 he).1] at this ⊢
  exact this.sta1 x hl
theorem isLit_errT : isLit errT := ⟨by decide, by decide⟩
theorem ErrI.sta {K : Cfg} {l : Nat} {s : Gs} {w w' : World} (x : Sta K l w w') (hl : l ≤ 3) (h : ErrI K s w) : ErrI K s w' := by
  obtain ⟨b, ob, u, ms, nm, h1, h2, h3, h4, h5⟩ := h
  obtain ⟨T, ub, rfl⟩ := h5.isI isLit_errT
  obtain ⟨ms', h4'⟩ := h4.sta x
  rw [h1] at h3
  exact ⟨b, ob, _, ms', nm, h1, h2, by rw [h1]; exact h3.sta x, h4', h5.sta x hl⟩
/-- more is known of the blocks -/
theorem DclV.gle {K : Cfg} {s s' : Gs} {w : World} (l : s.gle s') {n : Nat} {e : De} {d : Bool} (h : DclV K s w n e d) : DclV K s' w n e d := by
  have mv : ∀ {v : Value} {t : Ty}, RT K s w s.sl v t → RT K s' w s'.sl v t := fun h => (h.le l.le).mono fun d _ hd => l.sl d hd
  cases h with
  | def0 b ob h1 h2 h3 h4 h5 => exact .def0 b ob h1 (by rw [l.nm]; exact h2) (l.g _ _ h3) (by rw [l.pk]; exact h4) h5
  | def1 b ob u ms y h1 h2 h3 h4 h5 h6 h7 h8 => exact .def1 b ob u ms y h1 (by rw [l.nm]; exact h2) (l.g _ _ h3) (by rw [l.pk]; exact h4) h5 (mv h6) h7 h8
  | al0 h1 => exact .al0 h1
  | al1 b ob v v1 y h1 h2 h3 h4 h5 h6 h7 h8 h9 h10 h11 => exact .al1 b ob v v1 y h1 (by rw [l.nm]; exact h2) (by rw [l.pk]; exact h3) h4 (mv h5) h6 (mv h7) h8 h9 h10 h11
theorem DclI.gle {K : Cfg} {s s' : Gs} {w : World} (l : s.gle s') {i : Nat} (h : DclI K s w i) : DclI K s' w i := fun n e he => (h n e he).gle l
theorem ErrI.gle {K : Cfg} {s s' : Gs} {w : World} (l : s.gle s') (h : ErrI K s w) : ErrI K s' w := by
  obtain ⟨b, ob, u, ms, nm, h1, h2, h3, h4, h5⟩ := h
  exact ⟨b, ob, u, ms, nm, by rw [l.er]; exact h1, l.g _ _ h2, by rw [l.er]; exact h3, h4, (h5.le l.le).mono fun d _ hd => l.sl d hd⟩

/-! ### Unalias -/
theorem c_unalias_done (b T c : Nat) (ob og v : Value) (w : World) (h : Has w b (.cells #[ob, og, v, .iface T (pt c)] tAB)) : Calls Tryz.prog 146 #[pt b] w (Ret fun r w' => r = .iface T (pt c) ∧ w = w') := by
  refine W.enter (args := [pt b]) Tryz.func146 rfl Tryz.ntmps146 rfl rfl ?_
  refine zst ?_
  exact fin1 (.inl rfl) rfl rfl ⟨rfl, rfl⟩
theorem c_Unalias_yes (b T c : Nat) (ob og v : Value) (w : World) (h : Has w b (.cells #[ob, og, v, .iface T (pt c)] tAB)) : Calls Tryz.prog 102 #[.iface tAL (pt b)] w (Ret fun r w' => r = .iface T (pt c) ∧ w = w') := by
  refine W.enter (args := [.iface tAL (pt b)]) Tryz.func102 rfl Tryz.ntmps102 rfl rfl ?_
  refine zst ?_
  refine WU.stp rfl rfl rfl (stp_call rfl (c_unalias_done b T c ob og v w h)) ?_
  rintro _ _ ⟨rfl, rfl⟩
  refine zst ?_
  exact fin1 (.inl rfl) rfl rfl ⟨rfl, rfl⟩
theorem c_Alias_Underlying_lit (b T c : Nat) (ob og v : Value) (w : World) (h : Has w b (.cells #[ob, og, v, .iface T (pt c)] tAB)) (hT : litT T) : Calls Tryz.prog 273 #[pt b] w (Ret fun r w' => r = .iface T (pt c) ∧ w = w') := by
  refine W.enter (args := [pt b]) Tryz.func273 rfl Tryz.ntmps273 rfl rfl ?_
  refine zst ?_
  refine WU.stp rfl rfl rfl (stp_call rfl (c_unalias_done b T c ob og v w h)) ?_
  rintro _ _ ⟨rfl, rfl⟩
  refine WU.stp rfl rfl rfl (stp_und_lit hT rfl) ?_
  rintro _ _ ⟨rfl, rfl⟩
  refine zst ?_
  exact fin1 (.inl rfl) rfl rfl ⟨rfl, rfl⟩
theorem c_Alias_Underlying_named (b c T ub : Nat) (ob og v obj ms : Value) (w : World) (h : Has w b (.cells #[ob, og, v, .iface tNP (pt c)] tAB)) (hn : NamV w c obj (.iface T (pt ub)) ms) : Calls Tryz.prog 273 #[pt b] w (Ret fun r w' => r = .iface T (pt ub) ∧ w = w') := by
  refine W.enter (args := [pt b]) Tryz.func273 rfl Tryz.ntmps273 rfl rfl ?_
  refine zst ?_
  refine WU.stp rfl rfl rfl (stp_call rfl (c_unalias_done b tNP c ob og v w h)) ?_
  rintro _ _ ⟨rfl, rfl⟩
  refine WU.stp rfl rfl rfl (stp_und_named hn rfl) ?_
  rintro _ _ ⟨rfl, rfl⟩
  refine zst ?_
  exact fin1 (.inl rfl) rfl rfl ⟨rfl, rfl⟩

/-! ### In general -/
/-- t refers to what is made already -/
def Rdy (K : Cfg) (i : Nat) (t : Ty) : Prop := t.kind = 1 → 0 ≤ t.n ∧ t.n.toNat < K.D.length ∧ t.n.toNat < i
theorem under_tN {D : List De} (hD : ShapedD D) {t : Ty} {n : Nat} {e : De} (hk : t.kind = 1) (hn : t.n.toNat = n) (he : D[n]? = some e) : underT D t = underT D (tN n) := by
  rw [under_step hD hk (by rw [hn]; exact he), under_step hD (tN_kind n) (by rw [tN_n, Int.toNat_natCast]; exact he)]
/-- a defined type that is made -/
theorem DclI.def_ {K : Cfg} {s : Gs} {w : World} {i n : Nat} (h : DclI K s w i) {e : De} (he : K.D[n]? = some e) (hi : n < i) (ha : e.al = false) {v : Value} (hv : s.nm n = some v) :
    ∃ b ob T ub ms y, v = .iface tNP (pt b) ∧ s.g b = some (tN n) ∧ TnV w ob (s.pk e.pkg) e.name (.iface tNP (pt b)) ∧ NamV w b (pt ob) (.iface T (pt ub)) ms ∧ RT K s w s.sl (.iface T (pt ub)) y ∧ isLit y ∧ underT K.D (tN n) = norm y := by
  have := h n e he
  rw [decide_eq_true hi] at this
  cases this with
  | def1 b ob u ms y h1 h2 h3 h4 h5 h6 h7 h8 =>
    obtain ⟨T, ub, rfl⟩ := h6.isI h7
    rw [h2] at hv
    cases hv
    exact ⟨b, ob, T, ub, ms, y, rfl, h3, h4, h5, h6, h7, h8⟩
  | al1 b ob v v1 y h1 => rw [h1] at ha; cases ha
theorem DclI.al_ {K : Cfg} {s : Gs} {w : World} {i n : Nat} (h : DclI K s w i) {e : De} (he : K.D[n]? = some e) (hi : n < i) (ha : e.al = true) {v : Value} (hv : s.nm n = some v) :
    ∃ b ob T c v0 y, v = .iface tAL (pt b) ∧ TnV w ob (s.pk e.pkg) e.name (.iface tAL (pt b)) ∧ Has w b (.cells #[pt ob, pt b, v0, .iface T (pt c)] tAB) ∧ RT K s w s.sl v0 e.ty ∧ RT K s w s.sl (.iface T (pt c)) y ∧ isAl K.D y = false ∧ unaliasT K.D (tN n) = norm y ∧ (y.kind = 1 → 0 ≤ y.n ∧ y.n < n) := by
  have := h n e he
  rw [decide_eq_true hi] at this
  cases this with
  | def1 b ob u ms y h1 => rw [h1] at ha; cases ha
  | al1 b ob v v1 y h1 h2 h3 h4 h5 h6 h7 h8 h9 h10 h11 =>
    obtain ⟨T, c, rfl⟩ := h8
    rw [h2] at hv
    cases hv
    exact ⟨b, ob, T, c, v, y, rfl, h3, h4, h5, h7, h9, h10, h11⟩
section
variable {e : Env} {w : World} {d : Option Tmp} {ty : TypeId} {pos : String} {aft : Array Edge} {g : Option (Nat × Bool)} {recv : Operand} {tys : Array TypeId}
/-- Underlying: a literal that underlies the type -/
theorem stp_und {K : Cfg} {s : Gs} {i : Nat} {p : Nat → Prop} {v : Value} {t : Ty} (hD : ShapedD K.D) (hd : DclI K s w i) (he : ErrI K s w) (h : RT K s w p v t) (hi : Rdy K i t) (hr : ev e recv = some v) :
    Stp Tryz.prog e ⟨d, .call ⟨.invoke recv "Underlying", #[], tys⟩, ty, pos, aft, g⟩ w (fun r w' => w = w' ∧ ∃ y, RT K s w (fun d => p d ∨ s.sl d) r y ∧ isLit y ∧ underT K.D t = norm y ∧ IsI r) := by
  by_cases hk : t.kind = 1
  · obtain ⟨h0, h1, h2⟩ := hi hk
    have hel := List.getElem?_eq_getElem h1
    have hnm := h.nam hk
    cases ha : (K.D[t.n.toNat]).al
    · obtain ⟨b, ob, T, ub, ms, y, rfl, k1, k2, k3, k4, k5, k6⟩ := hd.def_ hel h2 ha hnm
      refine Stp.imp (stp_und_named k3 hr) fun r w' ⟨e1, e2⟩ => ⟨e2, y, ?_, k5, by rw [under_tN hD hk rfl hel]; exact k6, ?_⟩
      · rw [e1]; exact k4.mono fun d _ hd => .inr hd
      · rw [e1]; exact ⟨_, _, rfl⟩
    · obtain ⟨b, ob, T, c, v0, y, rfl, k1, k2, k3, k4, k5, k6, k7⟩ := hd.al_ hel h2 ha hnm
      have hu : underT K.D t = underT K.D y := by
        rw [under_tN hD hk rfl hel]
        exact under_of_unalias (by rw [k6, unalias_end k5])
      by_cases hy : y.kind = 1
      · obtain ⟨q0, q1⟩ := k7 hy
        have hlt : y.n.toNat < K.D.length := by omega
        have hel2 := List.getElem?_eq_getElem hlt
        have hal2 : (K.D[y.n.toNat]).al = false := by rw [← isAl_n hy hel2]; exact k5
        obtain ⟨b2, ob2, T2, ub2, ms2, y2, e1, m1, m2, m3, m4, m5, m6⟩ := hd.def_ hel2 (by omega) hal2 (k4.nam hy)
        cases e1
        refine Stp.imp (stp_invoke (args := []) (vs := []) hr rfl (c_Alias_Underlying_named b c T2 ub2 _ _ _ _ _ w k2 m3)) fun r w' ⟨e1, e2⟩ => ⟨e2, y2, ?_, m5, by rw [hu, under_tN hD hy rfl hel2]; exact m6, ?_⟩
        · rw [e1]; exact m4.mono fun d _ hd => .inr hd
        · rw [e1]; exact ⟨_, _, rfl⟩
      · by_cases hye : y.kind = 0 ∧ y.n = 20
        · obtain ⟨b2, ob2, u, ms, nm, q1, q2, q3, q4, q5⟩ := he
          have hv := k4.err hye.1 hye.2
          rw [q1] at hv
          cases hv
          obtain ⟨T2, ub2, rfl⟩ := q5.isI isLit_errT
          refine Stp.imp (stp_invoke (args := []) (vs := []) hr rfl (c_Alias_Underlying_named b c T2 ub2 _ _ _ _ _ w k2 q4)) fun r w' ⟨e1, e2⟩ => ⟨e2, errT, ?_, isLit_errT, by rw [hu, under_err hye.1 hye.2, under_norm_err], ?_⟩
          · rw [e1]; exact q5.mono fun d _ hd => .inr hd
          · rw [e1]; exact ⟨_, _, rfl⟩
        · obtain ⟨b2, e1, m1, m2⟩ := k4.lit ⟨hy, hye⟩
          cases e1
          refine Stp.imp (stp_invoke (args := []) (vs := []) hr rfl (c_Alias_Underlying_lit b _ c _ _ _ w k2 (dynT_lit y))) fun r w' ⟨e1, e2⟩ => ⟨e2, y, ?_, ⟨hy, hye⟩, by rw [hu, under_lit hy hye], ?_⟩
          · rw [e1]; exact k4.mono fun d _ hd => .inr hd
          · rw [e1]; exact ⟨_, _, rfl⟩
  · by_cases hye : t.kind = 0 ∧ t.n = 20
    · obtain ⟨b2, ob2, u, ms, nm, q1, q2, q3, q4, q5⟩ := he
      have hv := h.err hye.1 hye.2
      rw [q1] at hv
      subst hv
      obtain ⟨T2, ub2, rfl⟩ := q5.isI isLit_errT
      refine Stp.imp (stp_und_named q4 hr) fun r w' ⟨e1, e2⟩ => ⟨e2, errT, ?_, isLit_errT, by rw [under_err hye.1 hye.2, under_norm_err], ?_⟩
      · rw [e1]; exact q5.mono fun d _ hd => .inr hd
      · rw [e1]; exact ⟨_, _, rfl⟩
    · obtain ⟨b2, rfl, m1, m2⟩ := h.lit ⟨hk, hye⟩
      refine Stp.imp (stp_und_lit (dynT_lit t) hr) fun r w' ⟨e1, e2⟩ => ⟨e2, t, ?_, ⟨hk, hye⟩, under_lit hk hye, ?_⟩
      · rw [e1]; exact h.mono fun d _ hd => .inl hd
      · rw [e1]; exact ⟨_, _, rfl⟩
end
/-- Unalias -/
theorem c_gUnalias {K : Cfg} {s : Gs} {w : World} {i : Nat} {p : Nat → Prop} {v : Value} {t : Ty} (hD : ShapedD K.D) (hd : DclI K s w i) (he : ErrI K s w) (h : RT K s w p v t) (hi : Rdy K i t) :
    Calls Tryz.prog 102 #[v] w (Ret fun r w' => w = w' ∧ ∃ y, RT K s w (fun d => p d ∨ s.sl d) r y ∧ isAl K.D y = false ∧ unaliasT K.D t = norm y ∧ IsI r ∧ Rdy K i y) := by
  have no : ∀ (T b : Nat), v = .iface T (pt b) → Nat.beq T tAL = false → isAl K.D t = false → Calls Tryz.prog 102 #[v] w (Ret fun r w' => w = w' ∧ ∃ y, RT K s w (fun d => p d ∨ s.sl d) r y ∧ isAl K.D y = false ∧ unaliasT K.D t = norm y ∧ IsI r ∧ Rdy K i y) := fun T b hv hT ha => by
    subst hv
    exact (c_Unalias_no T _ w hT).mono fun e w' ⟨r, h1, h2, h3⟩ => ⟨r, h1, h3, t, by rw [h2]; exact h.mono fun d _ hd => .inl hd, ha, unalias_end ha, by rw [h2]; exact ⟨_, _, rfl⟩, hi⟩
  by_cases hk : t.kind = 1
  · obtain ⟨h0, h1, h2⟩ := hi hk
    have hel := List.getElem?_eq_getElem h1
    have hnm := h.nam hk
    cases ha : (K.D[t.n.toNat]).al
    · obtain ⟨b, ob, T, ub, ms, y, hv, k1, k2, k3, k4, k5, k6⟩ := hd.def_ hel h2 ha hnm
      exact no _ _ hv rfl (by rw [isAl_n hk hel]; exact ha)
    · obtain ⟨b, ob, T, c, v0, y, rfl, k1, k2, k3, k4, k5, k6, k7⟩ := hd.al_ hel h2 ha hnm
      exact (c_Unalias_yes b T c _ _ _ w k2).mono fun e w' ⟨r, e0, e1, e2⟩ => ⟨r, e0, e2, y, by rw [e1]; exact k4.mono fun d _ hd => .inr hd, k5, by rw [unalias_step hD hk hel ha, ← k6, unalias_step hD (tN_kind _) (by rw [tN_n, Int.toNat_natCast]; exact hel) ha], by rw [e1]; exact ⟨_, _, rfl⟩, fun hy => by
        obtain ⟨q0, q1⟩ := k7 hy
        exact ⟨q0, by omega, by omega⟩⟩
  · have ha := isAl_lit (D := K.D) hk
    by_cases hye : t.kind = 0 ∧ t.n = 20
    · obtain ⟨b2, ob2, u, ms, nm, q1, q2, q3, q4, q5⟩ := he
      have hv := h.err hye.1 hye.2
      rw [q1] at hv
      exact no _ _ hv rfl ha
    · obtain ⟨b2, hv, m1, m2⟩ := h.lit ⟨hk, hye⟩
      exact no _ _ hv (dynT_lit t).ne.1 ha
end Go.Proofs.YtpiegpegjbmlkaaGreatDoor
namespace Go.Kd
/-- at a round of a loop -/
structure WLp (P : Program) (n : Nat) (c : Code) (Q : Post) (D : List Deferred) (e : Env) (w : World) : Prop where
  out : ∀ a, Fr n D e a → ∀ b k cs, ∃ x a' w', post n Q x a' w' ∧ Arrives P (lone (b.at a (.code c :: .inLoop c :: k)) cs w) b k cs x a' w'
section
variable {P : Program} {n : Nat} {Q : Post} {D : List Deferred} {e : Env} {w : World}
theorem W.loop1 {c : Code} (h : WLp P n c Q D e w) : W P n (.loop c) Q D e w := ⟨fun a ha b k cs => by
  obtain ⟨x, a', w', hq, harr⟩ := h.out a ha b k cs
  exact ⟨x, a', w', hq, .of_steps (.one step_loop) harr⟩⟩
/-- one round -/
theorem WLp.next {c : Code} (h : W P n c (thn (WLp P n c Q) Q) D e w) : WLp P n c Q D e w := ⟨fun a ha b k cs => by
  obtain ⟨x, a1, w1, hq, harr⟩ := h.out a ha b (.inLoop c :: k) cs
  cases x with
  | normal =>
    obtain ⟨D1, e1, hf1, h2⟩ := hq
    obtain ⟨x2, a2, w2, hq2, harr2⟩ := h2.out a1 hf1 b k cs
    exact ⟨x2, a2, w2, hq2, .of_steps (Steps.trans harr (.one step_inLoop)) harr2⟩
  | exit id => exact ⟨_, a1, w1, lift_exit hq, .pass (x := .inLoop c) rfl (fun _ _ => .inl (by simp)) harr⟩
  | goto l => exact ⟨_, a1, w1, lift_goto hq, .pass (x := .inLoop c) rfl (fun _ _ => .inl (by simp)) harr⟩
  | ret => exact ⟨_, a1, w1, lift_ret hq, .pass (x := .inLoop c) rfl (fun _ _ => .inl (by simp)) harr⟩
  | panic ch => exact hq.elim
  | outgrown => exact hq.elim⟩
end
end Go.Kd
namespace Go.Proofs.YtpiegpegjbmlkaaGreatDoor
open Go Go.Kd
set_option maxRecDepth 100000

theorem c_assert (w : World) : Calls Tryz.prog 69 #[.bool true] w (Ret fun _ w' => w = w') := by
  refine W.enter (args := [.bool true]) Tryz.func69 rfl Tryz.ntmps69 rfl rfl ?_
  refine zst ?_
  exact fin0 (.inr rfl) rfl rfl
theorem AllT.open {w : World} {v : Value} (h : AllT w v) : ∃ g c tb cs, v = .slice (some ⟨g, 0, none⟩) 1 c ∧ w.cell? ⟨g, 0, none⟩ = some (pt tb) ∧ Has w g (.cells cs tTP) ∧ Has w tb (.cells #[.bool false, .nilIface] tTM) := by
  obtain ⟨a, c, tb, h1, h2, h3⟩ := h
  obtain ⟨g, cs, rfl, k1, k2⟩ := h2 0 (by omega)
  exact ⟨g, c, tb, cs, h1, cell_of k1 k2, k1, h3⟩
theorem c_isEmpty (v : Value) (w : World) (h : AllT w v) : Calls Tryz.prog 190 #[v] w (Ret fun r w' => r = .bool false ∧ w = w') := by
  obtain ⟨g, c, tb, cs, rfl, h1, _, h2⟩ := h.open
  refine W.enter (args := [.slice (some ⟨g, 0, none⟩) 1 c]) Tryz.func190 rfl Tryz.ntmps190 rfl rfl ?_
  refine zst ?_
  refine W.loop1 (WLp.next ?_)
  refine zst ?_
  rw [show decide ((0 : Int) < ((1 : Nat) : Int)) = true from rfl]
  refine zst ?_
  refine WU.yld rfl rfl rfl (yld_load_c rfl h1) ?_
  refine zst ?_
  exact fin1 (.inl rfl) rfl rfl ⟨rfl, rfl⟩
theorem c_tintersect (b b' : Nat) (w : World) (h : Has w b (.cells #[.bool false, .nilIface] tTM)) :
    Calls Tryz.prog 192 #[pt b, pt b'] w (Ret fun r w' => r = pt b' ∧ w = w') := by
  refine W.enter (args := [pt b, pt b']) Tryz.func192 rfl Tryz.ntmps192 rfl rfl ?_
  refine zst ?_
  exact fin1 (.inl rfl) rfl rfl ⟨rfl, rfl⟩
theorem App.nil {w w' : World} {n c : Nat} (a : App w w' (.slice none n c)) : Ext w w' := ⟨⟨a.os, a.tape, a.output, a.size, fun d hd => a.block d hd fun e => by cases e⟩⟩
/-- a row of one term -/
def Row1 (w : World) (base : Nat) (v : Value) (tb : Nat) : Prop := ∃ g c cs, v = .slice (some ⟨g, 0, none⟩) 1 c ∧ base ≤ g ∧ Has w g (.cells cs tTP) ∧ cs[0]? = some (pt tb)
theorem Row1.ext {w w' : World} (x : Ext w w') {base : Nat} {v : Value} {tb : Nat} (h : Row1 w base v tb) : Row1 w' base v tb := by
  obtain ⟨g, c, cs, h1, h2, h3, h4⟩ := h
  exact ⟨g, c, cs, h1, h2, h3.ext' x, h4⟩
theorem Row1.all {w : World} {base : Nat} {v : Value} {tb : Nat} (h : Row1 w base v tb) (hb : Has w tb (.cells #[.bool false, .nilIface] tTM)) : AllT w v := by
  obtain ⟨g, c, cs, h1, _, h3, h4⟩ := h
  exact ⟨_, c, tb, h1, fun i hi => by obtain rfl : i = 0 := by omega
                                      exact ⟨g, cs, rfl, h3, h4⟩, hb⟩
theorem Row1.q {w : World} {base : Nat} {v : Value} {tb : Nat} (h : Row1 w base v tb) (hb : Has w tb (.cells #[.bool false, .nilIface] tTM)) {p : Nat → Prop} (hp : ∀ d, base ≤ d → p d) (hpt : p tb) : AllQ w p v := by
  obtain ⟨g, c, cs, h1, h2, h3, h4⟩ := h
  exact ⟨_, c, tb, h1, fun i hi => by obtain rfl : i = 0 := by omega
                                      exact ⟨g, cs, rfl, hp g h2, h3, h4⟩, hpt, hb⟩
theorem row1_own {w : World} {base tb : Nat} {v : Value} (h : Own w base tTP 1 v [[pt tb]]) : Row1 w base v tb := by
  obtain ⟨a, cp, h1, h2⟩ := Own.row1 (n := 1) (f := fun _ => pt tb) h
  obtain ⟨g, cs, k1, k2, _, k4, k5⟩ := h2 0 (by omega)
  exact ⟨g, cp, cs, by rw [h1, k1], k2, k4, k5⟩
theorem c_norm (v : Value) (base tb : Nat) (w : World) (h : Row1 w base v tb) (hb : Has w tb (.cells #[.bool false, .nilIface] tTM)) :
    Calls Tryz.prog 189 #[v] w (Ret fun r w' => Row1 w' w.heap.size r tb ∧ Ext w w') := by
  obtain ⟨g, c, cs, rfl, _, h1, h2⟩ := h
  have hc := cell_of h1 h2
  refine W.enter (args := [.slice (some ⟨g, 0, none⟩) 1 c]) Tryz.func189 rfl Tryz.ntmps189 rfl rfl ?_
  refine zst ?_
  refine WU.stp rfl rfl rfl (stp_makeSlice (n := 1) rfl rfl (by omega)) ?_
  rintro _ w1 ⟨b1, rfl, n1⟩
  have ib1 := n1.has
  have hb1 := hb.ext' n1.ext
  refine zst ?_
  refine W.loop1 (WLp.next ?_)
  refine zst ?_
  rw [show decide ((0 : Int) < ((1 : Nat) : Int)) = true from rfl]
  refine zst ?_
  refine WU.yld rfl rfl rfl (yld_load_c rfl (n1.ext.cell hc)) ?_
  refine zst ?_
  refine W.loop1 (WLp.next ?_)
  refine zst ?_
  refine WU.stp rfl rfl rfl (stp_buildSlice rfl rfl rfl rfl rfl) ?_
  rintro _ w2 ⟨b2, rfl, n2⟩
  refine WU.stp rfl rfl rfl (stp_append1 (el := tTP) rfl rfl (Own.nil w2 w.heap.size tTP 1) (Cells.has n2.has) rfl rfl (by omega) (by simp [Value.oneCell']) (by simp) (Nat.le_trans n1.ext.size n2.ext.size)) ?_
  rintro v' w3 ⟨o3, a3, _⟩
  refine zst ?_
  refine WLp.next ?_
  refine zst ?_
  exact fin1 (.inl rfl) rfl rfl ⟨row1_own o3, (n1.ext.trans n2.ext).trans (App.nil a3)⟩
theorem c_intersect (v v' : Value) (w : World) (p : Nat → Prop) (hp : ∀ d, w.heap.size ≤ d → p d) (h : AllT w v) (h' : AllQ w p v') :
    Calls Tryz.prog 170 #[v, v'] w (Ret fun r w' => AllQ w' p r ∧ Ext w w') := by
  obtain ⟨g, c, tb, cs, hv, h1, _, h2⟩ := h.open
  obtain ⟨a', c', tb', hv', h1', hpt, h2'⟩ := h'
  obtain ⟨g', cs', hg', _, k1, k2⟩ := h1' 0 (by omega)
  have hA' : AllT w v' := ⟨a', c', tb', hv', h1'.row, h2'⟩
  subst hv hv' hg'
  refine W.enter (args := [.slice (some ⟨g, 0, none⟩) 1 c, .slice (some ⟨g', 0, none⟩) 1 c']) Tryz.func170 rfl Tryz.ntmps170 rfl rfl ?_
  refine zst ?_
  refine WU.stp rfl rfl rfl (stp_call rfl (c_isEmpty _ w h)) ?_
  rintro _ _ ⟨rfl, rfl⟩
  refine zst ?_
  refine WU.stp rfl rfl rfl (stp_call rfl (c_isEmpty _ w hA')) ?_
  rintro _ _ ⟨rfl, rfl⟩
  refine zst ?_
  refine W.loop1 (WLp.next ?_)
  refine zst ?_
  rw [show decide ((0 : Int) < ((1 : Nat) : Int)) = true from rfl]
  refine zst ?_
  refine WU.yld rfl rfl rfl (yld_load_c rfl h1) ?_
  refine zst ?_
  refine W.loop1 (WLp.next ?_)
  refine zst ?_
  rw [show decide ((0 : Int) < ((1 : Nat) : Int)) = true from rfl]
  refine zst ?_
  refine WU.yld rfl rfl rfl (yld_load_c rfl (cell_of k1 k2)) ?_
  refine zst ?_
  refine WU.stp rfl rfl rfl (stp_call rfl (c_tintersect tb tb' w h2)) ?_
  rintro _ _ ⟨rfl, rfl⟩
  refine zst ?_
  refine WU.stp rfl rfl rfl (stp_buildSlice rfl rfl rfl rfl rfl) ?_
  rintro _ w2 ⟨b2, rfl, n2⟩
  refine WU.stp rfl rfl rfl (stp_append1 (el := tTP) rfl rfl (Own.nil w2 w.heap.size tTP 1) (Cells.has n2.has) rfl rfl (by omega) (by simp [Value.oneCell']) (by simp) n2.ext.size) ?_
  rintro v' w3 ⟨o3, a3, _⟩
  have x3 : Ext w w3 := n2.ext.trans (App.nil a3)
  have hr3 := row1_own o3
  obtain ⟨gr, cr, csr, rfl, _⟩ := hr3
  refine zst ?_
  refine WLp.next ?_
  refine zst ?_
  refine WLp.next ?_
  refine zst ?_
  refine WU.stp rfl rfl rfl (stp_call rfl (c_norm _ w.heap.size tb' w3 (row1_own o3) (h2'.ext' x3))) ?_
  rintro r w4 ⟨hr4, x4⟩
  refine zst ?_
  exact fin1 (.inl rfl) rfl rfl ⟨hr4.q ((h2'.ext' x3).ext' x4) (fun d hd => hp d (Nat.le_trans x3.size hd)) hpt, x3.trans x4⟩
theorem c_intersectTermLists (v v' : Value) (w : World) (p : Nat → Prop) (hp : ∀ d, w.heap.size ≤ d → p d) (h : AllT w v) (h' : AllQ w p v') :
    Calls Tryz.prog 151 #[v, .bool false, v', .bool false] w (Ret fun r w' => ∃ u, r = .tuple #[u, .bool false] ∧ AllQ w' p u ∧ Ext w w') := by
  obtain ⟨g, c, tb, cs, hv, _⟩ := h.open
  obtain ⟨g', c', tb', cs', hv', _⟩ := h'.all.open
  subst hv hv'
  refine W.enter (args := [.slice (some ⟨g, 0, none⟩) 1 c, .bool false, .slice (some ⟨g', 0, none⟩) 1 c', .bool false]) Tryz.func151 rfl Tryz.ntmps151 rfl rfl ?_
  refine zst ?_
  refine WU.stp rfl rfl rfl (stp_call rfl (c_intersect _ _ w p hp h h')) ?_
  rintro r w2 ⟨hr, x2⟩
  obtain ⟨g2, c2, tb2, cs2, hv2, _⟩ := hr.all.open
  subst hv2
  refine zst ?_
  refine WU.stp rfl rfl rfl (stp_call rfl (c_assert w2)) ?_
  rintro _ _ rfl
  refine zst ?_
  exact fin2 (.inl rfl) rfl rfl rfl ⟨_, rfl, hr, x2⟩
end Go.Proofs.YtpiegpegjbmlkaaGreatDoor
namespace Go.Kd
variable {P : Program} {e : Env} {w : World} {d : Option Tmp} {ty t t2 : TypeId} {pos : String} {aft : Array Edge} {g : Option (Nat × Bool)} {x y z : Operand}
/-- a call of a function value that has captured variables -/
theorem stp_callc {f : Operand} {k : FuncId} {caps : List Value} {args : List Operand} {tys : Array TypeId} {vs : List Value} {R : Value → World → Prop} [h : Fun P k] (hf : ev e f = some (.func (.func k) #[] caps.toArray)) (ha : evs e args = some vs) (hc : Calls P k (vs ++ caps).toArray w (Ret R)) :
    Stp P e ⟨d, .call ⟨.value f, args.toArray, tys⟩, ty, pos, aft, g⟩ w R := ⟨fun ρ hρ => by
  obtain ⟨fn, h1, h2, h3⟩ := h.at_
  have hv : args.toArray.map ρ = vs.toArray := by rw [← evs_spec hρ args vs ha]; simp
  have hf' : ρ f = .func (.func k) #[] caps.toArray := hρ _ _ hf
  simp only [execOp, resolve, hv, hf', Deferred.ofValue, invoke, callFunc, program, bind, Sem.bind, Sem.run, pure, h1, h2, h3, Bool.false_eq_true, if_false, List.append_toArray]
  exact hc⟩

/-! ### Maps keyed by pointers -/
def PKeys (w : World) (tk : TypeId) (es : List MapEntry) : Prop := ∀ m ∈ es, ∃ a cs, m.key = .pointer (some a) ∧ Has w a.block (.cells cs tk (0, 0))
theorem run_asking_ptr {key tk : TypeId} [h : PtrT P key] {a : Addr} (ha : Pl w a.block) (es : List MapEntry) : ∀ (i : Nat), PKeys w tk es → ∃ q, (Instr.findAsking key (.pointer (some a)) es i).run P w = .ok q w ∧
    ∀ j v, q = some (j, v) → ∃ k m, j = i + k ∧ es[k]? = some m ∧ m.key = .pointer (some a) := by
  induction es with
  | nil => exact fun i _ => ⟨none, rfl, fun j v hj => by cases hj⟩
  | cons m r ih =>
    intro i hn
    obtain ⟨a', cs', h1, h2'⟩ := hn m (List.mem_cons_self ..)
    have h2 : Pl w a'.block := ⟨cs', tk, h2'.at_⟩
    obtain ⟨q, hq, hq2⟩ := ih (i + 1) fun m' hm' => hn m' (List.mem_cons_of_mem _ hm')
    have heq := run_equal_ptr (P := P) (t := key) (a := a) (b := a') ha h2
    by_cases hab : a = a'
    · subst hab
      refine ⟨some (i, m.val), ?_, fun j v hj => ?_⟩
      · rw [Instr.findAsking]
        simp only [h1, Sem.run_bind, heq, Result.andThen_ok, decide_true, if_true]
        rfl
      · simp only [Option.some.injEq, Prod.mk.injEq] at hj
        exact ⟨0, m, by omega, rfl, h1⟩
    · refine ⟨q, ?_, fun j v hj => ?_⟩
      · rw [Instr.findAsking]
        simp only [h1, Sem.run_bind, heq, Result.andThen_ok, decide_eq_false hab, Bool.false_eq_true, if_false]
        exact hq
      · obtain ⟨k, m', k1, k2, k3⟩ := hq2 j v hj
        exact ⟨k + 1, m', by omega, k2, k3⟩
theorem run_findKey_ptr {key tk : TypeId} [h : PtrT P key] {a : Addr} (ha : Pl w a.block) {es : List MapEntry} (hn : PKeys w tk es) : ∃ q, (Instr.findKey key (.pointer (some a)) es).run P w = .ok q w ∧ ∀ j v, q = some (j, v) → ∃ m, es[j]? = some m ∧ m.key = .pointer (some a) := by
  obtain ⟨el, i, h1, _⟩ := h.at_
  cases es with
  | nil =>
    refine ⟨none, ?_, fun j v hj => by cases hj⟩
    unfold Instr.findKey
    simp only [Sem.run_bind, run_underlying h1, Result.andThen_ok]
    rfl
  | cons m r =>
    obtain ⟨q, hq, hq2⟩ := run_asking_ptr (P := P) (key := key) ha (m :: r) 0 hn
    refine ⟨q, ?_, fun j v hj => ?_⟩
    · have : Instr.findNow (.pointer el) (.pointer (some a)) (m :: r) 0 = none := by simp [Instr.findNow, Instr.sameNow]
      unfold Instr.findKey
      simp only [Sem.run_bind, run_underlying h1, Result.andThen_ok, this]
      exact hq
    · obtain ⟨k, m', k1, k2, k3⟩ := hq2 j v hj
      exact ⟨m', by rw [k1, Nat.zero_add]; exact k2, k3⟩
theorem run_checkKey_ptr {key : TypeId} [h : PtrT P key] {emp : Bool} {v : Value} : (Instr.checkKey emp 10000 key v).run P w = .ok () w := by
  obtain ⟨el, i, h1, _⟩ := h.at_
  have hk : ∀ k : Nat, (Instr.checkKey emp (k + 1) key v).run P w = .ok () w := fun k => by
    rw [Instr.checkKey]
    simp [run_underlying h1]
  exact hk 9999
theorem run_stays {a : Option Addr} : (Instr.keyThatStays (.pointer a) (.pointer a)).run P w = .ok (.pointer a) w := by
  have hk : ∀ k : Nat, Instr.sameBits k (.pointer a) (.pointer a) = true := fun k => by unfold Instr.sameBits; simp
  unfold Instr.keyThatStays
  rw [hk]
  rfl
theorem PKeys.keep {w w' : World} {tk : TypeId} {es : List MapEntry} (h : PKeys w tk es) (hs : ∀ b cs, Has w b (.cells cs tk (0, 0)) → Has w' b (.cells cs tk (0, 0))) : PKeys w' tk es := fun m hm => by
  obtain ⟨a, cs, h1, h2⟩ := h m hm
  exact ⟨a, cs, h1, hs _ _ h2⟩
theorem stp_mapPtr {key el tk : TypeId} {a : Addr} {v : Value} {r : Nat} {es : Array MapEntry} {c : Nat} {ca : Array Value} [hm : Und P t (.map key el)] [h : PtrT P key]
    (hx : ev e x = some (.map (some r))) (hy : ev e y = some (.pointer (some a))) (hv : ev e z = some v) (hr : Has w r (.map es c)) (hha : Has w a.block (.cells ca tk (0, 0))) (hn : PKeys w tk es.toList) :
    Stp P e ⟨d, .mapUpdate t x y z, ty, pos, aft, g⟩ w (fun _ w' => ∃ es' c', Upd w r (.map es' c') w' ∧ PKeys w tk es'.toList) := ⟨fun ρ hρ => by
  have ha : Pl w a.block := ⟨ca, tk, hha.at_⟩
  obtain ⟨q, hq, hq2⟩ := run_findKey_ptr (P := P) (key := key) ha hn
  cases q with
  | none =>
    have hu := Upd.setMap (es' := es.push ⟨.pointer (some a), v, c⟩) (c' := c + 1) hr
    simp [execOp, hρ x _ hx, hρ y _ hy, hρ z _ hv, Instr.mapUpdate, Sem.run_bind, run_underlying hm.at_, run_checkKey_ptr (P := P) (w := w) (key := key), hq, run_getMap hr.at_, run_setMap _ hr.at_]
    refine ⟨_, ⟨_, hu⟩, fun m hm' => ?_⟩
    rw [Array.toList_push] at hm'
    rcases List.mem_append.1 hm' with h1 | h1
    · exact hn m h1
    · simp at h1; subst h1; exact ⟨a, ca, rfl, hha⟩
  | some jv =>
    obtain ⟨j, v0⟩ := jv
    obtain ⟨m, h1, h2⟩ := hq2 j v0 rfl
    have h3 : ((es[j]?).map (·.key)).getD (.pointer (some a)) = .pointer (some a) := by
      rw [← Array.getElem?_toList, h1]
      exact h2
    have hu := Upd.setMap (es' := es.modify j fun e => { e with key := .pointer (some a), val := v }) (c' := c) hr
    simp [execOp, hρ x _ hx, hρ y _ hy, hρ z _ hv, Instr.mapUpdate, Sem.run_bind, run_underlying hm.at_, run_checkKey_ptr (P := P) (w := w) (key := key), hq, run_getMap hr.at_, run_setMap _ hr.at_, h3, run_stays]
    refine ⟨_, ⟨_, hu⟩, fun m hm' => ?_⟩
    obtain ⟨i, hi⟩ := List.getElem?_of_mem hm'
    rw [Array.getElem?_toList, Array.getElem?_modify] at hi
    by_cases hji : j = i
    · subst hji
      rw [if_pos rfl] at hi
      cases hes : es[j]? with
      | none => rw [hes] at hi; cases hi
      | some m0 =>
        rw [hes] at hi
        simp at hi
        subst hi
        exact ⟨a, ca, rfl, hha⟩
    · rw [if_neg hji] at hi
      exact hn m (by rw [← Array.getElem?_toList] at hi; exact List.mem_of_getElem? hi)⟩
end Go.Kd
namespace Go.Proofs.YtpiegpegjbmlkaaGreatDoor
open Go Go.Kd
set_option maxRecDepth 100000

theorem Has.tne {w : World} {b b' : Nat} {cs cs' : Array Value} {t t' : TypeId} (h : Has w b (.cells cs t (0, 0))) (k : Has w b' (.cells cs' t' (0, 0))) (ht : t ≠ t') : b ≠ b' := fun e => by
  subst e
  have := h.at_.symm.trans k.at_
  simp only [Option.some.injEq, Obj.cells.injEq] at this
  exact ht this.2.1
theorem Has.mne {w : World} {b b' : Nat} {cs : Array Value} {t : TypeId} {es : Array MapEntry} {c : Nat} (h : Has w b (.cells cs t (0, 0))) (k : Has w b' (.map es c)) : b ≠ b' := fun e => by
  subst e
  have := h.at_.symm.trans k.at_
  cases this
abbrev tMS : Nat := 171
abbrev tMP : Nat := 253
theorem OSet.hasps {w : World} {base ps : Nat} {l : List (List UInt8 × Value)} (h : OSet w base ps l) : ∃ m, Has w ps (.cells #[m] tOS) := by
  rcases h.at_ with ⟨h1, _⟩ | ⟨r, es, c, _, _, h3, _⟩
  · exact ⟨_, h1⟩
  · exact ⟨_, h3⟩
/-- what the function that adds methods works on: the set of names, the methods, their places -/
structure AM (w : World) (base ps pa pp rr : Nat) (l : List (List UInt8 × Value)) (v : Value) (fbs : List Nat) : Prop where
  os : OSet w base ps l
  al : Has w pa (.cells #[v] tMS)
  ow : Own w base tFN 1 v (fbs.map fun b => [pt b])
  mp : Has w pp (.cells #[.map (some rr)] tMP)
  mm : ∃ es c, Has w rr (.map es c) ∧ PKeys w tFU es.toList
  ba : base ≤ pa
  br : base ≤ rr
theorem pkeys_sm {w : World} {tk : TypeId} {es : List MapEntry} {l : List (List UInt8 × Value)} (h : PKeys w tk es) (k : SM es l) : l = [] := by
  cases l with
  | nil => rfl
  | cons p q =>
    cases es with
    | nil => exact k.elim
    | cons m r =>
      obtain ⟨a, _, h1, _⟩ := h m (List.mem_cons_self ..)
      obtain ⟨⟨s, h2, _⟩, _⟩ := k
      rw [h1] at h2
      cases h2
/-- what is not worked on stays -/
def AKept (w w' : World) (ps pa : Nat) (v : Value) : Prop := ∀ (d : Nat) (o : Obj), w.heap[d]? = some o → d ≠ ps → d ≠ pa → v.ownBlock ≠ some d → (∀ es c, o ≠ Obj.map es c) → w'.heap[d]? = some o
theorem Own.cellsOf {w : World} {base el sz : Nat} {v : Value} {ls : List (List Value)} (h : Own w base el sz v ls) : ∀ k, v.ownBlock = some k → ∃ cs, Has w k (.cells cs el) := fun k hk => by
  rcases h.row.2 with ⟨h1, _⟩ | ⟨g, cap, cur, h1, _, h3, _⟩
  · rw [h1] at hk; cases hk
  · rw [h1] at hk
    cases hk
    exact ⟨cur, ⟨h3⟩⟩
theorem AM.kept {w w' : World} {base ps pa pp rr : Nat} {l : List (List UInt8 × Value)} {v : Value} {fbs : List Nat} (h : AM w base ps pa pp rr l v fbs) (hk : ∀ (d : Nat) (o : Obj), w.heap[d]? = some o → (∀ cs t, o = Obj.cells cs t (0, 0) → t ≠ tIF ∧ t ≠ tTS) → w'.heap[d]? = some o) : AM w' base ps pa pp rr l v fbs := by
  have hc : ∀ {d t : Nat} {cs : Array Value}, t ≠ tIF ∧ t ≠ tTS → Has w d (.cells cs t) → Has w' d (.cells cs t) := fun ht h => ⟨hk _ _ h.at_ fun cs' t' e => by
    cases e; exact ht⟩
  have hm : ∀ {d : Nat} {es : Array MapEntry} {c : Nat}, Has w d (.map es c) → Has w' d (.map es c) := fun h => ⟨hk _ _ h.at_ fun cs' t' e => by cases e⟩
  obtain ⟨es, c, h1, h2⟩ := h.mm
  refine ⟨⟨h.os.bs, h.os.ifs, ?_⟩, hc (by decide) h.al, h.ow.kept fun k hk' => ?_, hc (by decide) h.mp, ⟨es, c, hm h1, h2.keep fun b cs h => hc (by decide) h⟩, h.ba, h.br⟩
  · rcases h.os.at_ with ⟨k1, k2⟩ | ⟨r, es', c', k1, k2, k3, k4, k5⟩
    · exact .inl ⟨hc (by decide) k1, k2⟩
    · exact .inr ⟨r, es', c', k1, k2, hc (by decide) k3, hm k4, k5⟩
  · obtain ⟨cs, k1⟩ := Own.cellsOf h.ow k hk'
    exact (hc (by decide) k1).at_.trans k1.at_.symm
theorem OSet.updP {w w' : World} {base ps : Nat} {l : List (List UInt8 × Value)} (h : OSet w base ps l) (hl : l ≠ []) {b tk : Nat} {es : Array MapEntry} {c : Nat} {o : Obj} (hb : Has w b (.map es c)) (hp : PKeys w tk es.toList) (u : Upd w b o w') (hne : b ≠ ps) : OSet w' base ps l := ⟨h.bs, h.ifs, by
  rcases h.at_ with ⟨_, h2⟩ | ⟨r, es', c', h1, h2, h3, h4, h5, h6⟩
  · exact absurd h2 hl
  · refine .inr ⟨r, es', c', h1, h2, ⟨(u.oth _ (Ne.symm hne)).trans h3.at_⟩, ⟨(u.oth _ fun e => ?_).trans h4.at_⟩, h5, h6⟩
    subst e
    have := hb.at_.symm.trans h4.at_
    simp only [Option.some.injEq, Obj.map.injEq] at this
    rw [← this.1] at h5
    exact hl (pkeys_sm hp h5)⟩
theorem OSet.app {w w' : World} {base ps base' : Nat} {l : List (List UInt8 × Value)} {v : Value} {ls : List (List Value)} (h : OSet w base ps l) (a : App w w' v) (ho : Own w base' tFN 1 v ls) : OSet w' base ps l := ⟨h.bs, h.ifs, by
  rcases h.at_ with ⟨h1, h2⟩ | ⟨r, es', c', h1, h2, h3, h4, h5⟩
  · exact .inl ⟨Has.app (el := tFN) a ho h1 (by decide), h2⟩
  · exact .inr ⟨r, es', c', h1, h2, Has.app (el := tFN) a ho h3 (by decide), App.keep a h4 (fun k hk => by
      obtain ⟨cs, k1⟩ := Own.cellsOf ho k hk
      exact Has.mne k1 h4), h5⟩⟩

set_option maxHeartbeats 2000000 in
theorem c_addM (base ps pa pp rr b : Nat) (l : List (List UInt8 × Value)) (v : Value) (fbs : List Nat) (pos : Int) (ex : Bool) (pk : Value) (nm path : ByteArray) (vv : Value) (w : World) (h : AM w base ps pa pp rr l v fbs) (hb : base ≤ w.heap.size)
    (hp : Prp w) (hf : FuncV w b pk nm vv) (hk : PkV w nm pk path) (ha : Asc nm) (hz : path.size + nm.size ≤ 4611686018427387904) (hlen : fbs.length ≤ 1073741824) :
    Calls Tryz.prog 149 #[.int .i64 pos, pt b, .bool ex, pt ps, pt pa, pt pp] w (Ret fun _ w' => RowKit.Below base w w' ∧ ∃ l' v' fbs', AM w' base ps pa pp rr l' v' fbs' ∧ AKept w w' ps pa v ∧ (∀ g, v'.ownBlock = some g → v.ownBlock = some g ∨ w.heap.size ≤ g) ∧
      (((∃ p ∈ l, p.1 = idS nm.toList path.toList) ∧ l' = l ∧ fbs' = fbs) ∨ ((∀ p ∈ l, p.1 ≠ idS nm.toList path.toList) ∧ l' = l ++ [(idS nm.toList path.toList, .iface tFN (pt b))] ∧ fbs' = fbs ++ [b]))) := by
  obtain ⟨mv, hps⟩ := h.os.hasps
  have hal := h.al
  have hmp := h.mp
  obtain ⟨es, c, hrr, hpk⟩ := h.mm
  have hpaps : pa ≠ ps := Has.tne hal hps (by decide)
  have hppps : pp ≠ ps := Has.tne hmp hps (by decide)
  have hrrps : rr ≠ ps := Ne.symm (Has.mne hps hrr)
  have hpppa : pp ≠ pa := Has.tne hmp hal (by decide)
  have hrrpa : rr ≠ pa := Ne.symm (Has.mne hal hrr)
  have hrrpp : rr ≠ pp := Ne.symm (Has.mne hmp hrr)
  refine W.enter (args := [.int .i64 pos, pt b, .bool ex, pt ps, pt pa, pt pp]) Tryz.func149 rfl Tryz.ntmps149 rfl rfl ?_
  refine zst ?_
  refine WU.stp rfl rfl rfl (stp_call rfl (c_insert tFN base ps b l pk nm path vv w h.os hb hp hf.obj hk ha hz)) ?_
  rintro r w1 ⟨bl, hcase, hkp⟩
  have keepC : ∀ {d t : Nat} {cs : Array Value}, d ≠ ps → Has w d (.cells cs t) → Has w1 d (.cells cs t) := fun hd h => ⟨hkp _ _ h.lt hd h.at_ fun es c e => by cases e⟩
  have hal1 := keepC hpaps hal
  have hmp1 := keepC hppps hmp
  have hrr1 : Has w1 rr (.map es c) := ⟨hkp _ _ hrr.lt hrrps hrr.at_ fun es' c' e hl hsm => by
    cases e
    exact hl (pkeys_sm hpk hsm)⟩
  have hownps : ∀ k, v.ownBlock = some k → k ≠ ps := fun k hk' e => by
    obtain ⟨cs, k1⟩ := Own.cellsOf h.ow k hk'
    exact Has.tne k1 hps (by decide) e
  have how1 : Own w1 base tFN 1 v (fbs.map fun b => [pt b]) := h.ow.kept fun k hk' => by
    obtain ⟨cs, k1⟩ := Own.cellsOf h.ow k hk'
    exact (keepC (hownps k hk') k1).at_.trans k1.at_.symm
  have fu1 : ∀ d cs, Has w d (.cells cs tFU (0, 0)) → Has w1 d (.cells cs tFU (0, 0)) := fun d cs hd => keepC (Has.tne hd hps (by decide)) hd
  have kept1 : ∀ d o, w.heap[d]? = some o → d ≠ ps → (∀ es c, o ≠ Obj.map es c) → w1.heap[d]? = some o := fun d o ho hd hm => hkp d o (Array.getElem?_eq_some_iff.1 ho).1 hd ho fun es c e => absurd e (hm es c)
  have hb1 : base ≤ w1.heap.size := Nat.le_trans hb bl.size
  rcases hcase with ⟨hin, ⟨T', v', rfl⟩, hO⟩ | ⟨hno, rfl, hO⟩
  · have fin : RowKit.Below base w w1 ∧ ∃ l' v' fbs', AM w1 base ps pa pp rr l' v' fbs' ∧ AKept w w1 ps pa v ∧ (∀ g, v'.ownBlock = some g → v.ownBlock = some g ∨ w.heap.size ≤ g) ∧
      (((∃ p ∈ l, p.1 = idS nm.toList path.toList) ∧ l' = l ∧ fbs' = fbs) ∨ ((∀ p ∈ l, p.1 ≠ idS nm.toList path.toList) ∧ l' = l ++ [(idS nm.toList path.toList, .iface tFN (pt b))] ∧ fbs' = fbs ++ [b])) :=
      ⟨bl, l, v, fbs, ⟨hO, hal1, how1, hmp1, ⟨es, c, hrr1, hpk.keep fu1⟩, h.ba, h.br⟩, fun d o ho h1 _ _ h4 => kept1 d o ho h1 h4, fun g hg => .inl hg, .inl ⟨hin, rfl, rfl⟩⟩
    cases ex
    · refine zst ?_
      exact fin0 (.inr rfl) rfl fin
    · refine zst ?_
      exact fin0 (.inr rfl) rfl fin
  · refine zst ?_
    refine WU.stp rfl rfl rfl (stp_buildSlice rfl rfl rfl rfl rfl) ?_
    rintro _ w2 ⟨b2, rfl, n2⟩
    have hal2 := hal1.ext' n2.ext
    have hmp2 := hmp1.ext' n2.ext
    have hrr2 := hrr1.ext' n2.ext
    have how2 := how1.ext n2.ext
    have hb2 : base ≤ w2.heap.size := Nat.le_trans hb1 n2.ext.size
    refine WU.stp rfl rfl rfl (stp_append1 (el := tFN) rfl rfl how2 (Cells.has n2.has) rfl rfl (by omega) (by simp [Value.oneCell']) (by rw [List.length_map]; exact hlen) hb2) ?_
    rintro v' w3 ⟨o3, a3, g3⟩
    have keep3 : ∀ d, d < w2.heap.size → v.ownBlock ≠ some d → w3.heap[d]? = w2.heap[d]? := fun d hd hne => a3.block d hd fun e => hne e.symm
    have hal3 : Has w3 pa (.cells #[v] tMS) := Has.app (el := tFN) a3 how2 hal2 (by decide)
    have hmp3 : Has w3 pp (.cells #[.map (some rr)] tMP) := Has.app (el := tFN) a3 how2 hmp2 (by decide)
    have hownC : ∀ k, v.ownBlock = some k → ∃ cs, Has w2 k (.cells cs tFN) := Own.cellsOf how2
    have hrr3 : Has w3 rr (.map es c) := ⟨(keep3 rr hrr2.lt fun e => by
      obtain ⟨cs, k1⟩ := hownC rr e
      have := hrr2.at_.symm.trans k1.at_
      cases this).trans hrr2.at_⟩
    obtain ⟨sa, scp, hsh, _, _⟩ := o3.shape
    subst hsh
    refine zst ?_
    refine WU.stp0 rfl rfl (stp_store_cell rfl rfl rfl rfl) ?_
    rintro _ w4 u4
    have hmp4 : Has w4 pp (.cells #[.map (some rr)] tMP) := ⟨(u4.oth pp hpppa).trans hmp3.at_⟩
    have hrr4 : Has w4 rr (.map es c) := ⟨(u4.oth rr hrrpa).trans hrr3.at_⟩
    have hal4 := u4.has
    have fu4 : ∀ d cs, Has w d (.cells cs tFU (0, 0)) → Has w4 d (.cells cs tFU (0, 0)) := fun d cs hd => by
      have h3 := Has.app (el := tFN) a3 how2 ((fu1 d cs hd).ext' n2.ext) (by decide)
      exact ⟨(u4.oth d (Has.tne h3 hal3 (by decide))).trans h3.at_⟩
    refine zst ?_
    refine WU.stp0 rfl rfl (stp_mapPtr (tk := tFU) rfl rfl rfl hrr4 (fu4 b _ hf) (hpk.keep fu4)) ?_
    rintro _ w5 ⟨es', c', u5, hpk5⟩
    refine zst ?_
    have hne5 : ∀ d cs (t : Nat), Has w4 d (.cells cs t) → d ≠ rr := fun d cs t hd => Has.mne hd hrr4
    have hO3 := (hO.ext n2.ext).app a3 how2
    have hO4 := hO3.upd u4 hpaps fun es c h => by
      have := hal3.at_.symm.trans h.at_
      cases this
    have hO5 := hO4.updP (by simp) hrr4 (hpk.keep fu4) u5 hrrps
    have hown4 : ∀ k, (Value.slice sa _ scp).ownBlock = some k → k ≠ pa := fun k hk e => by
      obtain ⟨cs, k1⟩ := Own.cellsOf o3 k hk
      exact Has.tne k1 hal3 (by decide) e
    have o4 := o3.upd u4 hown4
    have o5 := o4.upd u5 fun k hk => by
      obtain ⟨cs, k1⟩ := Own.cellsOf o4 k hk
      exact hne5 k cs _ k1
    have bel2 : RowKit.Below base w w2 := bel_new bl n2 hb1
    have bel3 : RowKit.Below base w2 w3 := ⟨a3.os, a3.tape, a3.output, a3.size, fun k hk => a3.block k (by omega) fun e => by have := (how2.lt k e.symm).1; omega⟩
    refine fin0 (.inr rfl) rfl ⟨bel_upd (bel_upd (bel2.trans bel3) u4 h.ba) u5 h.br, _, _, _, ⟨hO5, ⟨(u5.oth pa (Ne.symm hrrpa)).trans hal4.at_⟩, by rw [List.map_append]; exact o5, ⟨(u5.oth pp (Ne.symm hrrpp)).trans hmp4.at_⟩, ⟨es', c', u5.has, hpk5.keep fun d cs h => ⟨(u5.oth d (hne5 d cs _ h)).trans h.at_⟩⟩, h.ba, h.br⟩, fun d o ho h1 h2 h3 h4 => ?_, fun g hg => (g3 g hg).imp id fun h => ?_, .inr ⟨hno, rfl, rfl⟩⟩
    · have k1 := kept1 d o ho h1 h4
      have hlt1 := (Array.getElem?_eq_some_iff.1 k1).1
      have k2 : w2.heap[d]? = some o := (n2.ext.below.block d hlt1).trans k1
      have k3 : w3.heap[d]? = some o := (keep3 d (Nat.lt_of_lt_of_le hlt1 n2.ext.size) h3).trans k2
      have k4 : w4.heap[d]? = some o := (u4.oth d h2).trans k3
      refine (u5.oth d fun e => ?_).trans k4
      subst e
      exact h4 _ _ (Option.some.inj (k4.symm.trans hrr4.at_))
    · have := n2.ext.size
      have := bl.size
      omega
end Go.Proofs.YtpiegpegjbmlkaaGreatDoor
namespace Go.Proofs.YtpiegpegjbmlkaaGreatDoor
open Go Go.Kd
set_option maxRecDepth 100000

/-- no alias: what the value's dynamic type is -/
theorem RT.noAl {K : Cfg} {s : Gs} {w : World} {i : Nat} {p : Nat → Prop} {v : Value} {t : Ty} (hd : DclI K s w i) (he : ErrI K s w) (h : RT K s w p v t) (hi : Rdy K i t) (ha : isAl K.D t = false) : ∃ T b, v = .iface T (pt b) ∧ (litT T ∨ T = tNP) := by
  by_cases hk : t.kind = 1
  · obtain ⟨h0, h1, h2⟩ := hi hk
    have hel := List.getElem?_eq_getElem h1
    obtain ⟨b, ob, T, ub, ms, y, rfl, _⟩ := hd.def_ hel h2 (by rw [← isAl_n hk hel]; exact ha) (h.nam hk)
    exact ⟨_, b, rfl, .inr rfl⟩
  · by_cases hye : t.kind = 0 ∧ t.n = 20
    · obtain ⟨b2, ob2, u, ms, nm, q1, _⟩ := he
      exact ⟨_, b2, (h.err hye.1 hye.2).trans q1, .inr rfl⟩
    · obtain ⟨b2, hv, _⟩ := h.lit ⟨hk, hye⟩
      exact ⟨_, b2, hv, .inl (dynT_lit t)⟩
theorem c_isTypeParam {K : Cfg} {s : Gs} {w : World} {i : Nat} {p : Nat → Prop} {v : Value} {t : Ty} (hD : ShapedD K.D) (hd : DclI K s w i) (he : ErrI K s w) (h : RT K s w p v t) (hi : Rdy K i t) :
    Calls Tryz.prog 71 #[v] w (Ret fun r w' => r = .bool false ∧ w = w') := by
  refine W.enter (args := [v]) Tryz.func71 rfl Tryz.ntmps71 rfl rfl ?_
  refine zst ?_
  refine WU.stp rfl rfl rfl (stp_call rfl (c_gUnalias hD hd he h hi)) ?_
  rintro r _ ⟨rfl, y, k1, k2, k3, k4, k5⟩
  obtain ⟨T, c, rfl, hT⟩ := k1.noAl hd he k5 k2
  have hT2 : Nat.beq T 112 = false := by
    rcases hT with h | rfl
    · exact h.ne.2.2.1
    · rfl
  refine zst ?_
  exact fin1 (.inl rfl) rfl rfl ⟨rfl, rfl⟩

/-- what is collected: methods, their blocks, the names in the set -/
structure Col (K : Cfg) (s : Gs) (w : World) (out : List Mt) (fbs : List Nat) (l : List (List UInt8 × Value)) : Prop where
  len : fbs.length = out.length
  ids : l.map Prod.fst = out.map fun m => idS m.name.toList (pth m.pkg).toList
  ms : ∀ (i : Nat) m f, out[i]? = some m → fbs[i]? = some f → MthO K s w s.sl m f
  nd : (out.map keyM).Nodup
theorem Col.nil (K : Cfg) (s : Gs) (w : World) : Col K s w [] [] [] := ⟨rfl, rfl, fun i m f h => by simp at h, by simp⟩
theorem Col.tr {K : Cfg} {s : Gs} {w w' : World} (y : Tr K w w' s.sl s.sl) {out : List Mt} {fbs : List Nat} {l : List (List UInt8 × Value)} (h : Col K s w out fbs l) : Col K s w' out fbs l := ⟨h.len, h.ids, fun i m f h1 h2 => (h.ms i m f h1 h2).tr y, h.nd⟩
theorem MthO.id {K : Cfg} {s : Gs} {w : World} {p : Nat → Prop} {m : Mt} {f : Nat} (h : MthO K s w p m f) : Ident m.name.toList ∧ (m.pkg = 0 ∨ m.pkg = 1) ∧ m.name.size ≤ Big := by
  obtain ⟨pk, sv, _, _, _, _, _, h6, h7, h8⟩ := h
  exact ⟨h6, h7, h8⟩
theorem Col.mem {K : Cfg} {s : Gs} {w : World} {out : List Mt} {fbs : List Nat} {l : List (List UInt8 × Value)} (h : Col K s w out fbs l) : ∀ m ∈ out, Ident m.name.toList ∧ (m.pkg = 0 ∨ m.pkg = 1) ∧ m.name.size ≤ Big := fun m hm => by
  obtain ⟨i, hi⟩ := List.getElem?_of_mem hm
  have hlt : i < fbs.length := by rw [h.len]; exact (List.getElem?_eq_some_iff.1 hi).1
  exact (h.ms i m _ hi (List.getElem?_eq_getElem hlt)).id
theorem Col.has {K : Cfg} {s : Gs} {w : World} {out : List Mt} {fbs : List Nat} {l : List (List UInt8 × Value)} (h : Col K s w out fbs l) {m : Mt} {f : Nat} (hm : MthO K s w s.sl m f) : (∃ p ∈ l, p.1 = idS m.name.toList (pth m.pkg).toList) ↔ keyM m ∈ out.map keyM := by
  obtain ⟨i1, i2, _⟩ := hm.id
  constructor
  · rintro ⟨p, hp, he⟩
    have h1 : p.1 ∈ l.map Prod.fst := List.mem_map_of_mem hp
    rw [h.ids] at h1
    obtain ⟨m', hm', he'⟩ := List.mem_map.1 h1
    obtain ⟨j1, j2, _⟩ := h.mem m' hm'
    have := (idS_key j1 i1 j2 i2).1 (he'.trans he)
    rw [← this]
    exact List.mem_map_of_mem hm'
  · intro hk
    obtain ⟨m', hm', he'⟩ := List.mem_map.1 hk
    obtain ⟨j1, j2, _⟩ := h.mem m' hm'
    have h1 : idS m'.name.toList (pth m'.pkg).toList ∈ l.map Prod.fst := by rw [h.ids]; exact List.mem_map_of_mem hm'
    obtain ⟨p, hp, he⟩ := List.mem_map.1 h1
    exact ⟨p, hp, he.trans ((idS_key j1 i1 j2 i2).2 he')⟩
theorem Col.add {K : Cfg} {s : Gs} {w : World} {out : List Mt} {fbs : List Nat} {l : List (List UInt8 × Value)} (h : Col K s w out fbs l) {m : Mt} {f : Nat} (hm : MthO K s w s.sl m f) (v : Value) :
    ((∃ p ∈ l, p.1 = idS m.name.toList (pth m.pkg).toList) → Col K s w (addM out m) fbs l) ∧ ((∀ p ∈ l, p.1 ≠ idS m.name.toList (pth m.pkg).toList) → Col K s w (addM out m) (fbs ++ [f]) (l ++ [(idS m.name.toList (pth m.pkg).toList, v)])) := by
  have hh := h.has hm
  rcases addM_spec out m with ⟨h1, h2⟩ | ⟨h1, h2⟩
  · refine ⟨fun _ => by rw [h1]; exact h, fun hno => ?_⟩
    obtain ⟨p, hp, he⟩ := hh.2 h2
    exact absurd he (hno p hp)
  · refine ⟨fun hin => absurd (hh.1 hin) h2, fun _ => ?_⟩
    rw [h1]
    refine ⟨by rw [List.length_append, List.length_append, h.len]; rfl, by rw [List.map_append, List.map_append, h.ids]; rfl, fun i m' f' hi hf => ?_, ?_⟩
    · by_cases hlt : i < out.length
      · rw [List.getElem?_append_left hlt] at hi
        rw [List.getElem?_append_left (by rw [h.len]; exact hlt)] at hf
        exact h.ms i m' f' hi hf
      · rw [List.getElem?_append_right (by omega)] at hi
        rw [List.getElem?_append_right (by rw [h.len]; omega), h.len] at hf
        have h0 : i - out.length = 0 := by
          have := (List.getElem?_eq_some_iff.1 hi).1
          simp at this
          omega
        rw [h0] at hi hf
        simp at hi hf
        subst hi hf
        exact hm
    · rw [List.map_append, List.nodup_append]
      refine ⟨h.nd, by simp, fun a ha b hb => ?_⟩
      simp at hb
      subst hb
      exact fun e => h2 (e ▸ ha)
set_option maxHeartbeats 1000000 in
theorem c_addC (K : Cfg) (s : Gs) (base ps pa pp rr f : Nat) (l : List (List UInt8 × Value)) (v : Value) (fbs : List Nat) (out : List Mt) (m : Mt) (pos : Int) (ex : Bool) (w : World) (h : AM w base ps pa pp rr l v fbs) (hb : base ≤ w.heap.size)
    (hp : Prp w) (hpg : PkgOK s w) (hc : Col K s w out fbs l) (hm : MthO K s w s.sl m f) (hsl : ∀ d, s.sl d → d < base) (hlen : out.length ≤ 1073741824) :
    Calls Tryz.prog 149 #[.int .i64 pos, pt f, .bool ex, pt ps, pt pa, pt pp] w (Ret fun _ w' => RowKit.Below base w w' ∧ ∃ l' v' fbs', AM w' base ps pa pp rr l' v' fbs' ∧ Col K s w' (addM out m) fbs' l' ∧ AKept w w' ps pa v ∧
      ∀ g, v'.ownBlock = some g → v.ownBlock = some g ∨ w.heap.size ≤ g) := by
  obtain ⟨pk, sv, k1, k2⟩ := hm.pkv hpg
  obtain ⟨i1, i2, i3⟩ := hm.id
  replace i3 : m.name.size ≤ 268435456 := i3
  refine (c_addM base ps pa pp rr f l v fbs pos ex pk m.name (pth m.pkg) sv w h hb hp k1 k2 i1.asc (by rw [pth_size]; omega) (by rw [hc.len]; exact hlen)).mono ?_
  rintro e w' ⟨r, he, bl, l', v', fbs', hA, hK, hg, hcase⟩
  have y : Tr K w w' s.sl s.sl := .sameM (fun d hd => bl.block d (hsl d hd)) fun _ h => h
  refine ⟨r, he, bl, l', v', fbs', hA, ?_, hK, hg⟩
  rcases hcase with ⟨h1, rfl, rfl⟩ | ⟨h1, rfl, rfl⟩
  · exact ((hc.add hm (.iface tFN (pt f))).1 h1).tr y
  · exact ((hc.add hm (.iface tFN (pt f))).2 h1).tr y

/-- blocks that are not worked on -/
def PX (p : Nat → Prop) (tb ps pa : Nat) (v : Value) (d : Nat) : Prop := p d ∧ d ≠ tb ∧ d ≠ ps ∧ d ≠ pa ∧ v.ownBlock ≠ some d
theorem PX.tr {K : Cfg} {w w' : World} {p : Nat → Prop} {tb ps pa : Nat} {v v' : Value} (hK : AKept w w' ps pa v) (hg : ∀ g, v'.ownBlock = some g → v.ownBlock = some g ∨ w.heap.size ≤ g) : Tr K w w' (PX p tb ps pa v) (PX p tb ps pa v') := ⟨fun b cs t ⟨h1, h2, h3, h4, h5⟩ _ h => by
  have hlt := h.lt
  exact ⟨⟨h1, h2, h3, h4, fun e => (hg b e).elim h5 fun h => by omega⟩, cs, ⟨hK b _ h.at_ h3 h4 h5 fun es c e => by cases e⟩, .rfl' ..⟩⟩
theorem AKept.ifn {w w' : World} {ps pa c base : Nat} {v : Value} {m : Value} {ls : List (List Value)} (hK : AKept w w' ps pa v) (hps : Has w ps (.cells #[m] tOS)) (hpa : Has w pa (.cells #[v] tMS)) (ho : Own w base tFN 1 v ls) (h : IfN w c) : IfN w' c := by
  obtain ⟨ma, mn, mc', ea, en, ec, h⟩ := h
  exact ⟨ma, mn, mc', ea, en, ec, ⟨hK c _ h.at_ (Has.tne h hps (by decide)) (Has.tne h hpa (by decide)) (fun e => Own.ne ho h (by decide) c e rfl) fun es c e => by cases e⟩⟩
end Go.Proofs.YtpiegpegjbmlkaaGreatDoor
namespace Go.Proofs.YtpiegpegjbmlkaaGreatDoor
open Go Go.Kd
set_option maxRecDepth 100000

theorem PkgOK.sta {K : Cfg} {l : Nat} {s : Gs} {w w' : World} (x : Sta K l w w') (h : PkgOK s w) : PkgOK s w' := fun n hn => by
  obtain ⟨c, y, h1, h2⟩ := h n hn
  exact ⟨c, y, h1, Has.sta x h2⟩
/-- what is known of a world in which type sets are computed; f: the declarations are made -/
structure SC (K : Cfg) (s : Gs) (w : World) (f : Bool) : Prop where
  prp : Prp w
  gN : gP < K.N
  pkg : PkgOK s w
  sl : ∀ d, s.sl d → d < w.heap.size
  er : ∃ b, s.er = .iface tNP (pt b)
  sh : ShapedD K.D
  wd : wtD K.D ≤ 16777216
  dc : f = true → DclI K s w K.D.length ∧ ErrI K s w
  kn : ∀ c u, s.g c = some u → isIf u → K.N ≤ c ∧ WfI K.D u ∧ RT K s w s.sl (.iface tPI (pt c)) u
theorem SC.sta {K : Cfg} {l : Nat} {s : Gs} {w w' : World} {f : Bool} (x : Sta K l w w') (hl : l ≤ 3) (h : SC K s w f) : SC K s w' f :=
  ⟨h.prp.sta x h.gN, h.gN, h.pkg.sta x, fun d hd => Nat.lt_of_lt_of_le (h.sl d hd) x.size, h.er, h.sh, h.wd, fun hf => ⟨(h.dc hf).1.sta x hl, (h.dc hf).2.sta x hl⟩, fun c u hc hu => ⟨(h.kn c u hc hu).1, (h.kn c u hc hu).2.1, (h.kn c u hc hu).2.2.sta x hl⟩⟩
theorem norm_if {y : Ty} (h : (norm y).kind = 9) : isIf y := by
  rcases norm_cases y with ⟨h1, h2⟩ | ⟨_, h2, _⟩ | ⟨h1, h2, _⟩
  · rw [h2] at h; exact .inl h
  · omega
  · exact .inr ⟨h1, h2⟩
theorem isIf.norm9 {y : Ty} (h : isIf y) : (norm y).kind = 9 := by
  rcases h with h | ⟨h, h2⟩
  · rw [norm_named (by omega)]; exact h
  · unfold norm; rw [if_pos h, if_neg (by omega), if_neg (by omega), if_pos h2]; rfl
theorem isIf.lit {y : Ty} (h : isIf y) : isLit y := by
  rcases h with h | ⟨h, h2⟩
  · exact ⟨by omega, fun ⟨h3, _⟩ => by omega⟩
  · exact ⟨by omega, fun ⟨_, h4⟩ => by omega⟩
theorem isIf.dyn {y : Ty} (h : isIf y) : dynT y = tPI := by
  unfold dynT
  rcases h with h | ⟨h, h2⟩
  · simp [h]
  · rw [if_pos h, if_pos h2]
theorem isIf.under {D : List De} {y : Ty} (h : isIf y) : underT D y = norm y := under_lit h.lit.1 h.lit.2
theorem IM.congr {D : List De} {t u : Ty} (h : underT D t = underT D u) {ms : List Mt} (hm : IM D t ms) : IM D u ms := by
  cases hm with
  | no _ hk => exact .no u (by rw [← h]; exact hk)
  | yes _ L h9 hL h1 h2 =>
    rw [h] at h9 hL h1 h2 ⊢
    exact .yes u L h9 hL h1 h2
theorem rk_unique {D : List De} {t : Ty} {j k : Nat} (h : rk D t j) (h' : rk D t k) : j = k := by
  rcases Nat.lt_trichotomy j k with h1 | h1 | h1
  · exact absurd h.1 (h'.2 j h1)
  · exact h1
  · exact absurd h'.1 (h.2 k h1)
theorem rk_congr {D : List De} {t u : Ty} (he : underT D t = underT D u) {k : Nat} (h : rk D t k) : rk D u k := ⟨imR_congr he h.1, fun j hj hi => h.2 j hj (imR_congr he.symm hi)⟩
theorem addM_len (out : List Mt) (m : Mt) : out.length ≤ (addM out m).length := by
  rcases addM_spec out m with ⟨h, _⟩ | ⟨h, _⟩ <;> rw [h]
  · exact Nat.le_refl _
  · simp
theorem foldl_len : ∀ (l out : List Mt), out.length ≤ (l.foldl addM out).length
  | [], _ => Nat.le_refl _
  | m :: l, out => Nat.le_trans (addM_len out m) (foldl_len l (addM out m))
theorem mergeE_len : ∀ (L : List (List Mt)) (out : List Mt), out.length ≤ (mergeE L out).length
  | [], _ => Nat.le_refl _
  | l :: L, out => Nat.le_trans (foldl_len l out) (mergeE_len L _)
theorem mergeE_app (L L' : List (List Mt)) (out : List Mt) : mergeE (L ++ L') out = mergeE L' (mergeE L out) := by
  unfold mergeE
  rw [List.foldl_append]
theorem mergeE_take (L : List (List Mt)) (j : Nat) (out : List Mt) : (mergeE (L.take j) out).length ≤ (mergeE L out).length := by
  have h := mergeE_app (L.take j) (L.drop j) out
  rw [List.take_append_drop] at h
  rw [h]
  exact mergeE_len _ _
theorem foldl_take (l out : List Mt) (k : Nat) : ((l.take k).foldl addM out).length ≤ (l.foldl addM out).length := by
  have h := List.foldl_append (f := addM) (b := out) (l := l.take k) (l' := l.drop k)
  rw [List.take_append_drop] at h
  rw [h]
  exact foldl_len _ _

/-! ### The interface's own methods, and those embedded -/
section
variable {K : Cfg} {s : Gs} {w : World} {b : Nat} {t : Ty} {ma : Option Addr} {c mc' : Nat} {ea : Option Addr} {en ec : Nat} {fb : Nat → Nat} {me : Nat → Ty} {sv ev : Nat → Value}
def exM (t : Ty) (c : Nat) (me : Nat → Ty) : List Mt := (List.range c).map fun i => ⟨(me i).name, (norm t).n, me i⟩
theorem IfD.lit (h : IfD K s w s.sl b t ma c mc' ea en ec fb me sv ev) (hi : isIf t) (hc : 0 < c + en) : t.kind = 9 ∧ norm t = t := by
  rcases hi with h1 | ⟨h1, h2⟩
  · exact ⟨h1, norm_named (by omega)⟩
  · have hn : norm t = anyT := by unfold norm; rw [if_pos h1, if_neg (by omega), if_neg (by omega), if_pos h2]
    have := h.len
    rw [hn] at this
    simp [anyT, Ty.elems] at this
    omega
theorem IfD.el (h : IfD K s w s.sl b t ma c mc' ea en ec fb me sv ev) {i : Nat} (hi : i < c) : ∃ j, j < c ∧ (norm t).elems[j]? = some (me i) := by
  have h1 : me i ∈ (norm t).elems.take c := h.pm.mem_iff.1 (List.mem_map_of_mem (List.mem_range.2 hi))
  obtain ⟨j, hj⟩ := List.getElem?_of_mem h1
  have hlt : j < c := by have := (List.getElem?_eq_some_iff.1 hj).1; rw [List.length_take] at this; omega
  exact ⟨j, hlt, by rw [← List.getElem?_take_of_lt hlt]; exact hj⟩
theorem IfD.mth (h : IfD K s w s.sl b t ma c mc' ea en ec fb me sv ev) (hi : isIf t) (hw : WfI K.D t) {i : Nat} (hic : i < c) : MthO K s w s.sl ⟨(me i).name, (norm t).n, me i⟩ (fb i) := by
  obtain ⟨h9, hn⟩ := h.lit hi (by omega)
  obtain ⟨j, hj, he⟩ := h.el hic
  obtain ⟨pk, k1, k2, k3⟩ := h.fn i hic
  obtain ⟨⟨d, v, _, hsh⟩, hwt, hlg⟩ := hw
  have hcnt := h.cnt
  have hs := hsh.shape
  have h0 := hs.n0 (by rw [h9]; simp [limitN])
  have h1 := hs.n1 (by rw [h9]; simp [limitN])
  rw [h9] at h1
  have h1' : t.n < 2 := by simpa [limitN] using h1
  rw [hn] at he hcnt k1 ⊢
  have hu := hlg.here.unq h9
  rw [hcnt, Int.toNat_natCast] at hu
  have hid := (uniq_names hu).1 j (me i) (by rw [List.getElem?_take_of_lt hj]; exact he)
  have hwe := wt_el he
  have hwn := wt_name (me i)
  refine ⟨pk, sv i, k1, k2, k3, h.sg i hic, hs.mth h9 j _ he (by rw [hcnt]; omega), hid, by show t.n = 0 ∨ t.n = 1; omega, ?_⟩
  show (me i).name.size ≤ Big
  omega
theorem IfD.perm (h : IfD K s w s.sl b t ma c mc' ea en ec fb me sv ev) : (exM t c me).Perm (ownM (norm t) c) := by
  have := h.pm.map fun e : Ty => (⟨e.name, (norm t).n, e⟩ : Mt)
  rw [List.map_map] at this
  exact this
theorem IfD.nodup (h : IfD K s w s.sl b t ma c mc' ea en ec fb me sv ev) (hi : isIf t) (hw : WfI K.D t) : ((ownM (norm t) c).map keyM).Nodup := by
  by_cases hc : c = 0
  · subst hc
    unfold ownM
    simp
  obtain ⟨h9, hn⟩ := h.lit hi (by omega)
  obtain ⟨_, _, hlg⟩ := hw
  have hcnt := h.cnt
  rw [hn] at hcnt ⊢
  have hu := hlg.here.unq h9
  rw [hcnt, Int.toNat_natCast] at hu
  exact own_nodup hu fun i e he hic => hlg.here.mth h9 i e he (by rw [hcnt]; omega)
/-- the embedded types' methods -/
theorem IfD.emb (h : IfD K s w s.sl b t ma c mc' ea en ec fb me sv ev) (hi : isIf t) (hw : WfI K.D t) : ∃ Ls : List (List Mt), Ls.length = en ∧ (∀ (j : Nat) e l, (norm t).elems[c + j]? = some e → Ls[j]? = some l → IM K.D e l) ∧ (∀ (j : Nat) e, (norm t).elems[c + j]? = some e → (underT K.D e).kind = 9) ∧ IM K.D t (mergeE Ls (ownM (norm t) c)) := by
  have hu := hi.under (D := K.D)
  have hlen := h.len
  have hcnt := h.cnt
  by_cases he : en = 0
  · refine ⟨[], he.symm, fun j e l _ hl => by simp at hl, fun j e hj => ?_, IM.of hu h.k9 hcnt (by omega) [] (by simp; omega) fun j e l _ hl => by simp at hl⟩
    have := (List.getElem?_eq_some_iff.1 hj).1
    omega
  obtain ⟨h9, hn⟩ := h.lit hi (by omega)
  obtain ⟨_, _, hlg⟩ := hw
  obtain ⟨all, hco⟩ := hlg.here.con h9
  rw [hn] at hu hlen hcnt ⊢
  have him := hco.im
  cases him with
  | no _ hk => rw [hu] at hk; exact absurd h9 hk
  | yes _ L k9 kL k1 k2 =>
    rw [hu] at k9 kL k1 k2
    have key : ∀ (j : Nat) e l, t.elems[c + j]? = some e → (L.drop c)[j]? = some l → IM K.D e l := fun j e l he hl => by
      rw [List.getElem?_drop] at hl
      exact k2 (c + j) e l he hl (by rw [hcnt]; omega)
    exact ⟨L.drop c, by rw [List.length_drop]; omega, key, fun j e he => hco.ifc (c + j) e he (by rw [hcnt]; omega), IM.of hu h9 hcnt (by omega) (L.drop c) (by rw [List.length_drop]; omega) key⟩
theorem IfD.rdy (h : IfD K s w s.sl b t ma c mc' ea en ec fb me sv ev) (hi : isIf t) (hw : WfI K.D t) {j : Nat} {e : Ty} (he : (norm t).elems[c + j]? = some e) : Rdy K K.D.length e := fun hk => by
  have hlt := (List.getElem?_eq_some_iff.1 he).1
  have hlen := h.len
  obtain ⟨h9, hn⟩ := h.lit hi (by omega)
  rw [hn] at he
  obtain ⟨⟨d, v, hd, hsh⟩, _⟩ := hw
  have hs := (hsh.el _ e he).shape
  have h0 := hs.n0 (by rw [hk]; simp [limitN])
  have h1 := hs.n1 (by rw [hk]; simp [limitN])
  rw [hk] at h1
  have h2 : e.n < K.D.length := by simpa [limitN] using h1
  exact ⟨h0, by omega, by omega⟩
end

/-- the state while an interface's type set is computed -/
structure LS (K : Cfg) (s : Gs) (w : World) (p : Nat → Prop) (b tb ps pa pp rr : Nat) (ic : Array Value) (t0 : Value) (out : List Mt) (v : Value) (wk : World) : Prop where
  cpl : Cpl K w wk
  hb : Has wk b (.cells ic tIF)
  ht : Has wk tb (.cells #[.bool false, .slice none 0 0, t0, .bool false] tTS)
  ex : ∃ l fbs, AM wk ps ps pa pp rr l v fbs ∧ Col K s wk out fbs l
  ifs : ∀ c u, s.g c = some u → isIf u → c ≠ b → IfS K s w p c u → IfS K s wk (PX p tb ps pa v) c u
  sz : pp < wk.heap.size
theorem LS.step {K : Cfg} {s : Gs} {w wk w' : World} {p : Nat → Prop} {b tb ps pa pp rr : Nat} {ic : Array Value} {t0 : Value} {out out' : List Mt} {v v' : Value} {l' : List (List UInt8 × Value)} {fbs' : List Nat} (h : LS K s w p b tb ps pa pp rr ic t0 out v wk)
    (bl : RowKit.Below ps wk w') (hA : AM w' ps ps pa pp rr l' v' fbs') (hC : Col K s w' out' fbs' l') (hK : AKept wk w' ps pa v) (hg : ∀ g, v'.ownBlock = some g → v.ownBlock = some g ∨ wk.heap.size ≤ g)
    (h1 : w.heap.size ≤ ps) (h2 : b < ps) (h3 : tb < ps) (hsl : ∀ d, s.sl d → d < ps) : LS K s w p b tb ps pa pp rr ic t0 out' v' w' := by
  obtain ⟨l, fbs, hA0, _⟩ := h.ex
  obtain ⟨m, hps⟩ := hA0.os.hasps
  refine ⟨h.cpl.bel (bl.mono h1), Has.bel bl h2 h.hb, Has.bel bl h3 h.ht, ⟨l', fbs', hA, hC⟩, fun c u hc hu hne hs => ?_, Nat.lt_of_lt_of_le h.sz bl.size⟩
  rcases h.ifs c u hc hu hne hs with k | k
  · exact .inl (k.tr (PX.tr hK hg) (.sameM (fun d hd => bl.block d (hsl d hd)) fun _ h => h))
  · exact .inr (hK.ifn hps hA0.al hA0.ow k)
theorem Cpl.done {K : Cfg} {w w' : World} (x : Cpl K w w') {b tb : Nat} {ma : Option Addr} {mn mc' : Nat} {ea : Option Addr} {en ec : Nat} (h : Has w b (.cells (ifc ma mn mc' ea en ec (pt tb)) tIF)) : Has w' b (.cells (ifc ma mn mc' ea en ec (pt tb)) tIF) := by
  obtain ⟨cs', h1, h2⟩ := x.ifs _ _ h.at_
  obtain ⟨ts', rfl⟩ := h2.ifb
  have h6 := h2.cell 6 (by
    unfold mc
    simp only [show ¬ tIF = tTY from by decide, if_false, if_true]
    rfl)
  have : ts' = pt tb := Option.some.inj h6
  subst this
  exact ⟨h1⟩
theorem Cpl.cells {K : Cfg} {w w' : World} (x : Cpl K w w') {b : Nat} {cs : Array Value} {t : TypeId} (ht : t ≠ tIF) (h : Has w b (.cells cs t)) : Has w' b (.cells cs t) := ⟨x.blk _ _ h.at_ fun cs' e => by
  cases e
  exact ht rfl⟩
/-- .. after another one's has been computed -/
theorem LS.call {K : Cfg} {s : Gs} {w wk w' : World} {p : Nat → Prop} {b tb ps pa pp rr : Nat} {ma : Option Addr} {mn mc' : Nat} {ea : Option Addr} {en ec : Nat} {t0 : Value} {out : List Mt} {v : Value} (h : LS K s w p b tb ps pa pp rr (ifc ma mn mc' ea en ec (pt tb)) t0 out v wk)
    (x : Cpl K wk w') (hp : ∀ c u, s.g c = some u → isIf u → IfS K s wk (PX p tb ps pa v) c u → IfS K s w' (PX p tb ps pa v) c u) : LS K s w p b tb ps pa pp rr (ifc ma mn mc' ea en ec (pt tb)) t0 out v w' := by
  obtain ⟨l, fbs, hA, hC⟩ := h.ex
  exact ⟨h.cpl.trans x, x.done h.hb, x.cells (by decide) h.ht, ⟨l, fbs, hA.kept fun d o h ho => x.blk d o h fun cs e => (ho cs _ e).1 rfl, hC.tr (.sta x.sta (by omega) _)⟩, fun c u hc hu hne hs => hp c u hc hu (h.ifs c u hc hu hne hs), Nat.lt_of_lt_of_le h.sz x.size⟩
theorem IfS.ext {K : Cfg} {s : Gs} {w w' : World} {p : Nat → Prop} (x : Ext w w') {c : Nat} {u : Ty} (h : IfS K s w p c u) : IfS K s w' p c u :=
  h.imp (fun h => h.tr (.sta (l := 0) (.of_ext x) (by omega) _) (.sta (l := 0) (.of_ext x) (by omega) _)) fun h => h.ext x
theorem LS.ext {K : Cfg} {s : Gs} {w wk w' : World} {p : Nat → Prop} {b tb ps pa pp rr : Nat} {ma : Option Addr} {mn mc' : Nat} {ea : Option Addr} {en ec : Nat} {t0 : Value} {out : List Mt} {v : Value} (h : LS K s w p b tb ps pa pp rr (ifc ma mn mc' ea en ec (pt tb)) t0 out v wk)
    (x : Ext wk w') : LS K s w p b tb ps pa pp rr (ifc ma mn mc' ea en ec (pt tb)) t0 out v w' := h.call (.of_ext x) fun _ _ _ _ h => h.ext x
/-- a type set's block -/
structure TB (K : Cfg) (s : Gs) (w : World) (q : Nat → Prop) (tb : Nat) (a : Option Addr) (n c : Nat) (v : Value) (ms : List Mt) (fb : Nat → Nat) : Prop where
  ptb : q tb
  ht : Has w tb (.cells #[.bool false, .slice a n c, v, .bool false] tTS)
  all : AllQ w q v
  row : RowQ w q tFN a n fb
  len : ms.length = n
  mth : ∀ (i : Nat) m, ms[i]? = some m → MthO K s w s.sl m (fb i)
theorem TB.tr {K : Cfg} {s : Gs} {w w' : World} {q q' : Nat → Prop} (x : Tr K w w' q q') (y : Tr K w w' s.sl s.sl) {tb : Nat} {a : Option Addr} {n c : Nat} {v : Value} {ms : List Mt} {fb : Nat → Nat} (h : TB K s w q tb a n c v ms fb) : TB K s w' q' tb a n c v ms fb := by
  obtain ⟨k3, k4⟩ := x.imm h.ptb h.ht
  exact ⟨k3, k4, h.all.tr x, h.row.tr x, h.len, fun i m hm => (h.mth i m hm).tr y⟩
theorem TSo.tb {K : Cfg} {s : Gs} {w : World} {q : Nat → Prop} {b tb : Nat} {t : Ty} {ms : List Mt} {fb : Nat → Nat} (h : TSo K s w q b tb t ms fb) : ∃ a c v, TB K s w q tb a ms.length c v ms fb := by
  obtain ⟨a, c, v, h1, h2, h3⟩ := h.tsb
  exact ⟨a, c, v, h.ptb, h1, h2, h3, rfl, h.mth⟩
/-- the type set is there -/
theorem LS.done {K : Cfg} {s : Gs} {w wk wz : World} {p : Nat → Prop} {b tb ps pa pp rr : Nat} {ma : Option Addr} {mn mc' : Nat} {ea : Option Addr} {en ec : Nat} {t0 : Value} {out : List Mt} {v va : Value} {t : Ty} {ms msF : List Mt} {a : Option Addr} {c : Nat} {fb : Nat → Nat}
    (h : LS K s w p b tb ps pa pp rr (ifc ma mn mc' ea en ec (pt tb)) t0 out v wk) (hgb : s.g b = some t) (hpb : p b) (hptb : p tb) (hp : ∀ d, w.heap.size ≤ d → p d) (h1 : w.heap.size ≤ tb) (h2 : tb < ps) (hbw : b < w.heap.size) (hsl : ∀ d, s.sl d → d < w.heap.size)
    (hos : wz.os = wk.os ∧ wz.tape = wk.tape ∧ wz.output = wk.output ∧ wk.heap.size ≤ wz.heap.size) (hk : ∀ (d : Nat) (o : Obj), wk.heap[d]? = some o → d ≠ tb → v.ownBlock ≠ some d → wz.heap[d]? = some o)
    (htz : Has wz tb (.cells #[.bool false, .slice a ms.length c, va, .bool false] tTS)) (hrow : ∀ i, i < ms.length → ∃ g cs, a = some ⟨g, 0, none⟩ ∧ ps ≤ g ∧ Has wz g (.cells cs tFN) ∧ cs[i]? = some (pt (fb i))) (hpm : ms.Perm out) (hs : Srtd ms)
    (hmth : ∀ (i : Nat) m, ms[i]? = some m → MthO K s wk s.sl m (fb i)) (hva : AllQ wk (PX p tb ps pa v) va) (hout : out.Perm msF) (him : IM K.D t msF) :
    Cpl K w wz ∧ ∃ tb' ms' fb', pt tb = pt tb' ∧ TSo K s wz p b tb' t ms' fb' ∧ ∀ c u, s.g c = some u → isIf u → IfS K s w p c u → IfS K s wz p c u := by
  obtain ⟨l, fbs, hA, hC⟩ := h.ex
  have hown : ∀ d, d < ps → v.ownBlock ≠ some d := fun d hd e => by have := (hA.ow.lt d e).1; omega
  have hwk := h.cpl.size
  have bel : RowKit.Below w.heap.size wk wz := ⟨hos.1, hos.2.1, hos.2.2.1, hos.2.2.2, fun d hd => by
    have ho := Array.getElem?_eq_getElem (show d < wk.heap.size by omega)
    rw [ho]
    exact hk d _ ho (by omega) (hown d (by omega))⟩
  have x : Tr K wk wz (PX p tb ps pa v) p := ⟨fun d cs t' ⟨q1, q2, q3, q4, q5⟩ _ hd => ⟨q1, cs, ⟨hk d _ hd.at_ q2 q5⟩, .rfl' ..⟩⟩
  have y : Tr K wk wz s.sl s.sl := .sameM (fun d hd => bel.block d (hsl d hd)) fun _ h => h
  have hbz := Has.bel bel hbw h.hb
  have hts : TSo K s wz p b tb t ms fb := ⟨hpb, hptb, ⟨_, _, _, _, _, _, hbz⟩, ⟨msF, him, hpm.trans hout⟩, hs, ⟨a, c, va, htz, hva.tr x, fun i hi => by
    obtain ⟨g, cs, k1, k2, k3, k4⟩ := hrow i hi
    exact ⟨g, cs, k1, hp g (by omega), k3, k4⟩⟩, fun i m hm => (hmth i m hm).tr y⟩
  refine ⟨h.cpl.bel bel, tb, ms, fb, rfl, hts, fun c' u hc hu hs' => ?_⟩
  by_cases hcb : c' = b
  · subst hcb
    rw [hgb] at hc
    cases hc
    exact .inl ⟨tb, ms, fb, hts⟩
  · rcases h.ifs c' u hc hu hcb hs' with k | k
    · exact .inl (k.tr x y)
    · exact .inr (k.same fun cs hcs => (hk c' _ hcs.at_ (Has.tne hcs h.ht (by decide)) fun e => Own.ne hA.ow hcs (by decide) c' e rfl).trans hcs.at_.symm)
theorem c_allTermlist' (w : World) : Calls Tryz.prog 148 #[] w (Ret fun r w' => AllQ w' (fun d => w.heap.size ≤ d) r ∧ Ext w w') := by
  refine W.enter (args := []) Tryz.func148 rfl Tryz.ntmps148 rfl rfl ?_
  refine zst ?_
  refine WU.stp rfl rfl rfl stp_alloc ?_
  rintro _ w1 ⟨b1, rfl, n1⟩
  refine zst ?_
  refine WU.stp rfl rfl rfl (stp_buildSlice rfl rfl rfl rfl rfl) ?_
  rintro _ w2 ⟨b2, rfl, n2⟩
  refine zst ?_
  have h1 := n1.num
  have h2 := n2.num
  have h3 := n1.ext.size
  refine fin1 (.inl rfl) rfl rfl ⟨⟨_, _, b1, rfl, fun i hi => ⟨b2, _, rfl, by omega, n2.has, ?_⟩, by omega, n1.has.ext' n2.ext⟩, n1.ext.trans n2.ext⟩
  obtain rfl : i = 0 := by omega
  rfl
/-- the contract: the type set of block b is there afterwards -/
def CitsC (K : Cfg) (s : Gs) (f : Bool) (k b : Nat) (t : Ty) : Prop := ∀ (w : World) (p : Nat → Prop) (pos : Int), SC K s w f → (∀ d, w.heap.size ≤ d → p d) → (∀ d, s.sl d → p d) → (∀ c u j, s.g c = some u → isIf u → rk K.D u j → j ≤ k → IfS K s w p c u) →
  Calls Tryz.prog 109 #[.pointer none, .int .i64 pos, pt b] w (Ret fun r w' => Cpl K w w' ∧ ∃ tb ms fb, r = pt tb ∧ TSo K s w' p b tb t ms fb ∧ ∀ c u, s.g c = some u → isIf u → IfS K s w p c u → IfS K s w' p c u)
theorem c_cits_done (w : World) (pos : Int) (b tb : Nat) (h : IfT w b (pt tb)) : Calls Tryz.prog 109 #[.pointer none, .int .i64 pos, pt b] w (Ret fun r w' => r = pt tb ∧ w = w') := by
  obtain ⟨ma, mn, mc', ea, en, ec, h⟩ := h
  refine W.enter (args := [.pointer none, .int .i64 pos, pt b]) Tryz.func109 rfl Tryz.ntmps109 rfl rfl ?_
  refine zst ?_
  exact fin1 (.inl rfl) rfl rfl ⟨rfl, rfl⟩
end Go.Proofs.YtpiegpegjbmlkaaGreatDoor

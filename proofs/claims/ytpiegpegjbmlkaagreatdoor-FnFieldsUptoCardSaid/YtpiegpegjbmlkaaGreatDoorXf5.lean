/- The walks and the plain laws, part 5. -/
import Derived.Test.YtpiegpegjbmlkaaGreatDoorXf4
import Derived.Test.YtpiegpegjbmlkaaGreatDoorCards
import Derived.OpenShut
import Derived.Test.YtpiegpegjbmlkaaGreatDoorXf1
import Derived.Lib.LaidTab
import Derived.Lib.Strings
import Derived.Test.YtpiegpegjbmlkaaGreatDoorXf3
namespace Go.Proofs.YtpiegpegjbmlkaaGreatDoor
open Go Go.Kd
set_option maxRecDepth 100000

theorem ErrI.cfg {K K' : Cfg} {s : Gs} {w : World} (hq : ∀ b, s.sl b → b ≠ K'.nb) (h : ErrI K s w) : ErrI K' s w := by
  obtain ⟨b, ob, u, ms, nm, h1, h2, h3, h4, h5⟩ := h
  exact ⟨b, ob, u, ms, nm, h1, h2, h3, h4, h5.cfg hq⟩
/-- what NewError leaves -/
structure Er0 (K : Cfg) (pk : Int → Value) (lo hi : Nat) (w : World) (b : Nat) (s : Gs) : Prop where
  nm : s.nm = fun _ => none
  er : s.er = .iface tNP (pt b)
  pk : s.pk = pk
  sl : ∀ d, s.sl d → lo ≤ d ∧ d < hi
  ei : ErrI K s w
  g : ∀ c u, s.g c = some u → lo ≤ c ∧ c < hi ∧ (isIf u → WfI K.D u ∧ RT K s w s.sl (.iface tPI (pt c)) u ∧ TSv K s w all' c u)
theorem Er0.to {K K' : Cfg} {pk : Int → Value} {lo hi : Nat} {w w' : World} {b : Nat} {s : Gs} (h : Er0 K pk lo hi w b s) (x : Ext w w') (hD : K'.D = K.D) (hn : K'.nb < lo ∨ hi ≤ K'.nb) : Er0 K' pk lo hi w' b s := by
  have hq : ∀ b, s.sl b → b ≠ K'.nb := fun b hb => by have := h.sl b hb; omega
  exact ⟨h.nm, h.er, h.pk, h.sl, (h.ei.cfg hq).sta (l := 0) (.of_ext x) (by omega), fun c u hc => by
    obtain ⟨k1, k2, k3⟩ := h.g c u hc
    exact ⟨k1, k2, fun hu => by
      obtain ⟨q1, q2, q3⟩ := k3 hu
      exact ⟨by rw [hD]; exact q1, (q2.cfg hq).ext x, (q3.cfg hq hD).sta (l := 0) (.of_ext x) (by omega)⟩⟩⟩
/-- the state when the builder is there -/
def St1 (D : List De) (w0 : World) (v : Value) (e' : Env) (w' : World) : Prop := ∃ bb nb c0 c1 b lo hi x0 x1 s, subs e' [(0, v), (3, pt bb)] ∧ Ext w0 w' ∧ w0.heap.size ≤ bb ∧ w0.heap.size ≤ nb ∧ w0.heap.size ≤ lo ∧ hi ≤ w'.heap.size ∧
  Has w' bb (.cells #[pt c0, pt c1, .slice (some ⟨nb, 0, none⟩) D.length D.length, .iface tNP (pt b), .slice none 0 0] tBU) ∧ Has w' nb (.cells (List.replicate D.length .nilIface).toArray tTY) ∧
  Has w' c0 (.cells #[.string ⟨#[112]⟩, .string x0] tPK) ∧ Has w' c1 (.cells #[.string ⟨#[113]⟩, .string x1] tPK) ∧ Er0 ⟨w0.heap.size, nb, D⟩ (fun n => if n = 0 then pt c0 else pt c1) lo hi w' b s
theorem St1.nst {D : List De} {w0 w' : World} {v : Value} {e' : Env} (h : St1 D w0 v e' w') (hp : Prp w0) (hV : ValidD D) (hwd : wtD D ≤ 16777216) : ∃ nb bb s, subs e' [(0, v), (3, pt bb)] ∧ Ext w0 w' ∧ NSt ⟨w0.heap.size, nb, D⟩ (fun d => d < w'.heap.size) w' bb 0 w' s := by
  obtain ⟨bb, nb, c0, c1, b, lo, hi, x0, x1, s, hs, x, hb, hn, hlo, hhi, hbb, hnb, hc0, hc1, he⟩ := h
  have p0 : s.pk 0 = pt c0 := by rw [he.pk]; rfl
  have p1 : s.pk 1 = pt c1 := by rw [he.pk]; rfl
  have hbb' : Has w' bb (.cells #[s.pk 0, s.pk 1, .slice (some ⟨nb, 0, none⟩) D.length D.length, s.er, .slice none 0 0] tBU) := by rw [p0, p1, he.er]; exact hbb
  have hnn : ∀ i u, s.nm i = some u → False := fun i u hu => by rw [he.nm] at hu; cases hu
  refine ⟨nb, bb, s, hs, x, RowKit.Below.refl _ _, ⟨⟨hb, hn, hnb.lt, fun n hn => ?_, ⟨_, _, he.er⟩, fun i u hu => (hnn i u hu).elim, fun c u hc => ?_, fun d hd => ?_, fun b hb => (by cases hb), _, _, _, _, hbb', Own.nil .., fun i u hu => (hnn i u hu).elim⟩, ⟨_, _, hbb', hnb, by simp, fun i u hu => (hnn i u hu).elim⟩, he.ei, fun c u hc => ?_, hp.ext x, hp.lt, hV, hwd⟩, fun n e _ _ hn => absurd hn (Nat.not_lt_zero n), fun n e _ _ => by rw [he.nm]⟩
  · rcases hn with rfl | rfl
    · exact ⟨c0, x0, p0, hc0⟩
    · exact ⟨c1, x1, p1, hc1⟩
  · have := (he.g c u hc).2.1
    omega
  · have := (he.sl d hd).2
    omega
  · obtain ⟨k1, k2, k3⟩ := he.g c u hc
    refine ⟨by show w0.heap.size ≤ c; omega, fun hu => ?_⟩
    obtain ⟨q1, q2, q3⟩ := k3 hu
    exact ⟨q1, q2, .inl (q3.tr (Tr.staM (K := ⟨w0.heap.size, nb, D⟩) (l := 0) (.rfl' ..) (by omega) fun d hd _ => hd) (.sta (K := ⟨w0.heap.size, nb, D⟩) (l := 0) (.rfl' ..) (by omega) _))⟩

set_option maxHeartbeats 4000000 in
theorem c_build {D : List De} {w0 : World} {a : Option Addr} {cp : Nat} {p : Nat → Prop} (hp : Prp w0) (hV : ValidD D) (hwd : wtD D ≤ 16777216) (hd : DsV w0 p (.slice a D.length cp) D) (hpb : ∀ b, p b → b < w0.heap.size) :
    Calls Tryz.prog 44 #[.slice a D.length cp] w0 (Ret fun r w' => ∃ nb bb w1, Ext w0 w1 ∧ BuildR' ⟨w0.heap.size, nb, D⟩ w1 bb r w') := by
  have hDl : D.length ≤ 16777216 := by have := len_wtD D; omega
  have herr : ∀ (c0 c1 : Nat) (w : World), Ext w0 w → Has w c0 (.cells #[.string ⟨#[112]⟩, .string ⟨#[112]⟩] tPK) → Has w c1 (.cells #[.string ⟨#[113]⟩, .string ⟨#[113]⟩] tPK) → Calls Tryz.prog 75 #[] w (Ret fun r w' => Ext w w' ∧ ∃ b s, r = pt b ∧ Er0 ⟨w.heap.size, 0, D⟩ (fun n => if n = 0 then pt c0 else pt c1) w.heap.size w'.heap.size w' b s) := fun c0 c1 w x h0 h1 => by
    refine (c_NewError D (fun n => if n = 0 then pt c0 else pt c1) w (hp.ext x) (hp.ext x).lt hV.sh hwd fun n hn => ?_).mono fun x w' ⟨v, k0, k1, b, s, k2, k3, k4, k5, k6, k7, k8⟩ => ⟨v, k0, k1, b, s, k2, k3, k4, k5, k6, k7, k8⟩
    rcases hn with rfl | rfl
    · exact ⟨c0, _, rfl, h0⟩
    · exact ⟨c1, _, rfl, h1⟩
  refine W.enter (args := [.slice a D.length cp]) Tryz.func44 rfl Tryz.ntmps44 rfl rfl ?_
  (repeat ((fail_if_success guard_target =~ gW (.seq (.region 1 _ _) _)); (fail_if_success guard_target =~ gW (.seq (.seq (.region 1 _ _) _) _)); refine zs1 ?_))
  refine W.cutW (St1 D w0 (.slice a D.length cp)) ?_ ?_
  · refine W.regT ?_
    rintro w1 x1
    refine WT.q 3 (by kernel_rfl) (by kernel_rfl) (by kernel_rfl) rfl rfl rfl rfl zyl ?_
    refine WT.q 4 (by kernel_rfl) (by kernel_rfl) (by kernel_rfl) rfl rfl rfl rfl zyl ?_
    refine WT.two (i := 0) (j := 5) (by kernel_rfl) rfl rfl rfl rfl (stp_call rfl (c_NewPackage ⟨#[112]⟩ ⟨#[112]⟩ w1)) rfl rfl rfl rfl (stp_makeSlice (n := D.length) rfl rfl (by omega)) ?_ ?_
    · rintro _ w2 ⟨c0, rfl, n2⟩
      refine ⟨n2.ext, ?_⟩
      have h0 := n2.has
      refine WT.two (i := 1) (j := 5) (by kernel_rfl) rfl rfl rfl rfl (stp_call rfl (c_NewPackage ⟨#[113]⟩ ⟨#[113]⟩ w2)) rfl rfl rfl rfl (stp_makeSlice (n := D.length) rfl rfl (by omega)) ?_ ?_
      · rintro _ w3 ⟨c1, rfl, n3⟩
        refine ⟨n3.ext, ?_⟩
        have h1 := n3.has
        have h03 := h0.ext' n3.ext
        have x03 := (x1.trans n2.ext).trans n3.ext
        refine WT.q 2 (by kernel_rfl) (by kernel_rfl) (by kernel_rfl) rfl rfl rfl rfl (yld_buildArr rfl rfl) ?_
        refine WT.two (i := 5) (j := 6) (by kernel_rfl) rfl rfl rfl rfl (stp_makeSlice (n := D.length) rfl rfl (by omega)) rfl rfl rfl rfl (stp_call rfl (herr c0 c1 w3 x03 h03 h1)) ?_ ?_
        · rintro _ w4 ⟨nb, rfl, n4⟩
          refine ⟨n4.ext, ?_⟩
          refine WT.lin [(6, .l), (7, .q), (8, .q), (9, .l), (10, .q)] (by kernel_rfl) (by kernel_rfl) rfl ?_
          refine zsd ?_
          refine WD.stp rfl rfl rfl rfl (stp_call rfl (herr c0 c1 w4 (x03.trans n4.ext) (h03.ext' n4.ext) (h1.ext' n4.ext))) ?_
          rintro _ w5 ⟨x5, b, s, rfl, he⟩
          refine ⟨x5, ?_⟩
          refine zsd ?_
          refine WD.stp rfl rfl rfl rfl (by first | exact stp_box rfl rfl | exact stp_box1 rfl rfl) ?_
          rintro _ w6 ⟨bb, rfl, n6⟩
          refine ⟨n6.ext, ?_⟩
          refine zsd ?_
          have e4 := n4.num
          have e6 := n6.num
          have z2 := x03.size
          have z4 := n4.size
          have z5 := x5.size
          have z6 := n6.size
          exact ⟨rfl, rfl, bb, nb, c0, c1, b, w4.heap.size, w5.heap.size, _, _, s, ⟨rfl, rfl, trivial⟩, ((x03.trans n4.ext).trans x5).trans n6.ext, by omega, by omega, by omega, by omega, n6.has, (n4.has.ext' x5).ext' n6.ext, ((h03.ext' n4.ext).ext' x5).ext' n6.ext, ((h1.ext' n4.ext).ext' x5).ext' n6.ext, he.to n6.ext rfl (.inl (by show nb < _; omega))⟩
        · rintro _ w4 ⟨x4, b, s, rfl, he⟩
          refine ⟨x4, ?_⟩
          refine WT.lin [(7, .q), (5, .l), (8, .q), (9, .l), (10, .q)] (by kernel_rfl) (by kernel_rfl) rfl ?_
          refine zsd ?_
          refine WD.stp rfl rfl rfl rfl (stp_makeSlice (n := D.length) rfl rfl (by omega)) ?_
          rintro _ w5 ⟨nb, rfl, n5⟩
          refine ⟨n5.ext, ?_⟩
          refine zsd ?_
          refine WD.stp rfl rfl rfl rfl (by first | exact stp_box rfl rfl | exact stp_box1 rfl rfl) ?_
          rintro _ w6 ⟨bb, rfl, n6⟩
          refine ⟨n6.ext, ?_⟩
          refine zsd ?_
          have e5 := n5.num
          have e6 := n6.num
          have z2 := x03.size
          have z4 := x4.size
          have z5 := n5.size
          have z6 := n6.size
          exact ⟨rfl, rfl, bb, nb, c0, c1, b, w3.heap.size, w4.heap.size, _, _, s, ⟨rfl, rfl, trivial⟩, ((x03.trans x4).trans n5.ext).trans n6.ext, by omega, by omega, by omega, by omega, n6.has, n5.has.ext' n6.ext, ((h03.ext' x4).ext' n5.ext).ext' n6.ext, ((h1.ext' x4).ext' n5.ext).ext' n6.ext, (he.to n5.ext rfl (K' := ⟨w0.heap.size, nb, D⟩) (.inr (by show _ ≤ nb; omega))).to n6.ext rfl (.inr (by show _ ≤ nb; omega))⟩
      · rintro _ w3 ⟨nb, rfl, n3⟩
        refine ⟨n3.ext, ?_⟩
        refine WT.lin [(1, .l), (2, .q), (6, .l), (7, .q), (8, .q), (9, .l), (10, .q)] (by kernel_rfl) (by kernel_rfl) rfl ?_
        refine zsd ?_
        refine WD.stp rfl rfl rfl rfl (stp_call rfl (c_NewPackage ⟨#[113]⟩ ⟨#[113]⟩ w3)) ?_
        rintro _ w4 ⟨c1, rfl, n4⟩
        refine ⟨n4.ext, ?_⟩
        have h1 := n4.has
        have h04 := (h0.ext' n3.ext).ext' n4.ext
        have x04 := ((x1.trans n2.ext).trans n3.ext).trans n4.ext
        refine zsd ?_
        refine WD.yld rfl rfl rfl rfl (yld_buildArr rfl rfl) ?_
        refine zsd ?_
        refine WD.stp rfl rfl rfl rfl (stp_call rfl (herr c0 c1 w4 x04 h04 h1)) ?_
        rintro _ w5 ⟨x5, b, s, rfl, he⟩
        refine ⟨x5, ?_⟩
        refine zsd ?_
        refine WD.stp rfl rfl rfl rfl (by first | exact stp_box rfl rfl | exact stp_box1 rfl rfl) ?_
        rintro _ w6 ⟨bb, rfl, n6⟩
        refine ⟨n6.ext, ?_⟩
        refine zsd ?_
        have e3 := n3.num
        have e6 := n6.num
        have z1 := x1.size
        have z2 := n2.size
        have z3 := n3.size
        have z4 := n4.size
        have z5 := x5.size
        have z6 := n6.size
        exact ⟨rfl, rfl, bb, nb, c0, c1, b, w4.heap.size, w5.heap.size, _, _, s, ⟨rfl, rfl, trivial⟩, (x04.trans x5).trans n6.ext, by omega, by omega, by omega, by omega, n6.has, ((n3.has.ext' n4.ext).ext' x5).ext' n6.ext, (h04.ext' x5).ext' n6.ext, (h1.ext' x5).ext' n6.ext, he.to n6.ext rfl (.inl (by show nb < _; omega))⟩
    · rintro _ w2 ⟨nb, rfl, n2⟩
      refine ⟨n2.ext, ?_⟩
      refine WT.lin [(0, .l), (1, .l), (2, .q), (6, .l), (7, .q), (8, .q), (9, .l), (10, .q)] (by kernel_rfl) (by kernel_rfl) rfl ?_
      refine zsd ?_
      refine WD.stp rfl rfl rfl rfl (stp_call rfl (c_NewPackage ⟨#[112]⟩ ⟨#[112]⟩ w2)) ?_
      rintro _ w3 ⟨c0, rfl, n3⟩
      refine ⟨n3.ext, ?_⟩
      have h0 := n3.has
      refine zsd ?_
      refine WD.stp rfl rfl rfl rfl (stp_call rfl (c_NewPackage ⟨#[113]⟩ ⟨#[113]⟩ w3)) ?_
      rintro _ w4 ⟨c1, rfl, n4⟩
      refine ⟨n4.ext, ?_⟩
      have h1 := n4.has
      have h04 := h0.ext' n4.ext
      have x04 := ((x1.trans n2.ext).trans n3.ext).trans n4.ext
      refine zsd ?_
      refine WD.yld rfl rfl rfl rfl (yld_buildArr rfl rfl) ?_
      refine zsd ?_
      refine WD.stp rfl rfl rfl rfl (stp_call rfl (herr c0 c1 w4 x04 h04 h1)) ?_
      rintro _ w5 ⟨x5, b, s, rfl, he⟩
      refine ⟨x5, ?_⟩
      refine zsd ?_
      refine WD.stp rfl rfl rfl rfl (by first | exact stp_box rfl rfl | exact stp_box1 rfl rfl) ?_
      rintro _ w6 ⟨bb, rfl, n6⟩
      refine ⟨n6.ext, ?_⟩
      refine zsd ?_
      have e2 := n2.num
      have e6 := n6.num
      have z1 := x1.size
      have z2 := n2.size
      have z3 := n3.size
      have z4 := n4.size
      have z5 := x5.size
      have z6 := n6.size
      exact ⟨rfl, rfl, bb, nb, c0, c1, b, w4.heap.size, w5.heap.size, _, _, s, ⟨rfl, rfl, trivial⟩, (x04.trans x5).trans n6.ext, by omega, by omega, by omega, by omega, n6.has, (((n2.has.ext' n3.ext).ext' n4.ext).ext' x5).ext' n6.ext, (h04.ext' x5).ext' n6.ext, (h1.ext' x5).ext' n6.ext, he.to n6.ext rfl (.inl (by show nb < _; omega))⟩
  · rintro e' w1 h1
    obtain ⟨nb, bb, s, hs, x, hN⟩ := h1.nst hp hV hwd
    obtain ⟨c, hc1, hc2⟩ := build2 (a := a) (cp := cp) (p := p) hN (fun d hd => hd) (hd.ext x) hpb
    exact W.useA (e' := [(0, .slice a D.length cp), (3, pt bb)]) ⟨c, hc1, hc2.mono (fin_imp fun v w' ⟨v1, k0, k⟩ => ⟨v1, k0, nb, bb, w1, x, k⟩)⟩ rfl hs
end Go.Proofs.YtpiegpegjbmlkaaGreatDoor
namespace Go.Proofs.YtpiegpegjbmlkaaGreatDoor
open Go Go.Kd Go.ChangeShapes Go.WideShapes
set_option maxRecDepth 100000

theorem lists_of {α : Type} {n : Nat} {p : Nat → α → Prop} (h : ∀ i, i < n → ∃ x, p i x) : ∃ l : List α, l.length = n ∧ ∀ i x, l[i]? = some x → p i x := by
  induction n with
  | zero => exact ⟨[], rfl, fun i x h => by simp at h⟩
  | succ n ih =>
    obtain ⟨l, h1, h2⟩ := ih fun i hi => h i (by omega)
    obtain ⟨x, hx⟩ := h n (by omega)
    refine ⟨l ++ [x], by simp [h1], fun i y hy => ?_⟩
    by_cases hi : i < l.length
    · rw [List.getElem?_append_left hi] at hy
      exact h2 i y hy
    · have hlt := (List.getElem?_eq_some_iff.1 hy).1
      simp at hlt
      obtain rfl : i = l.length := by omega
      simp at hy
      subst hy
      rw [h1]; exact hx
section
variable {H : Type} {enc : TypeId × Value → H} {W : World} {sp : Nat → Bool} {held : Bool}
theorem bulk_sum {α : Type} (B : α → Nat) : ∀ (es : List α) (ds : List (DataW H)), es.length = ds.length → (∀ (i : Nat) e d, es[i]? = some e → ds[i]? = some d → B e ≤ Rows.uptoBulk d) → (es.map B).sum ≤ Rows.uptoBulkAll ds
  | [], [], _, _ => Nat.zero_le _
  | e :: es, d :: ds, hl, h => by
    have h0 := h 0 e d rfl rfl
    have := bulk_sum B es ds (by simpa using hl) fun i e d he hd => h (i + 1) e d (by simpa using he) (by simpa using hd)
    simp only [List.map_cons, List.sum_cons, Rows.uptoBulkAll]
    omega
  | [], _ :: _, hl, _ => by simp at hl
  | _ :: _, [], hl, _ => by simp at hl
theorem cells_open {a : Addr} {k sz : Nat} {cs : List Value} (hs : a.spot = none) (h : W.cells? 0 (a.add k) sz = some cs) : Cells W a.block (a.off + k) cs ∧ cs.length = sz := by
  obtain ⟨b, o, s⟩ := a
  simp at hs
  subst hs
  obtain ⟨_, h2, h3⟩ := World.cells?_some h
  refine ⟨fun j v hv => ?_, h2⟩
  have hj := (List.getElem?_eq_some_iff.1 hv).1
  have := h3 j (by omega)
  rw [Go.WideShapes.add_plain, Go.WideShapes.add_plain] at this
  rw [← hv]; exact this
theorem slice_open {α : Type} (R : List Value → α → Prop) (B : α → Nat) {P : Program} {t e fuel sz : Nat} {c : Value} {x : DataW H × List MemPlace} (ht : P.underlying t = some (.slice e)) (hsz : P.cellsOf e = sz) (hpos : 0 < sz) (h : DataW.trod enc P W 0 sp held fuel t [c] = some x)
    (ih : ∀ n, n < fuel → ∀ cs y, DataW.trod enc P W 0 sp held n e cs = some y → ∃ a, R cs a ∧ B a ≤ Rows.uptoBulk y.1) :
    ∃ (a : Option Addr) (cp : Nat) (es : List α) (f : Nat → List Value), c = .slice a es.length cp ∧ es.length ≤ cp ∧ SlC W (fun b => b < W.heap.size) sz a es.length f ∧ (∀ (i : Nat) e, es[i]? = some e → R (f i) e) ∧ (es.map B).sum + 1 ≤ Rows.uptoBulk x.1 := by
  rcases DataW.trod_slice ht h with ⟨h1, rfl⟩ | ⟨a, len, cap, elems, rest, n, rfl, h1, rfl, _, hlc, _, hlen, hel, _⟩
  · simp at h1
    subst h1
    exact ⟨none, 0, [], fun _ => [], rfl, Nat.le_refl _, fun i hi => by simp at hi, fun i e he => by simp at he, by simp [Rows.uptoBulk]⟩
  · simp at h1
    subst h1
    rw [hsz] at hel
    have key : ∀ i, i < len → ∃ q : List Value × α × DataW H, W.cells? 0 (a.add (i * sz)) sz = some q.1 ∧ R q.1 q.2.1 ∧ B q.2.1 ≤ Rows.uptoBulk q.2.2 ∧ (elems.map (·.1))[i]? = some q.2.2 := fun i hi => by
      have h2 := hel i hi
      rw [List.getElem?_eq_getElem (by omega), Option.bind_eq_some_iff] at h2
      obtain ⟨cs, h3, h4⟩ := h2
      obtain ⟨q, h5, h6⟩ := ih n (Nat.lt_succ_self n) cs _ h4
      exact ⟨(cs, q, elems[i].1), h3, h5, h6, by rw [List.getElem?_map, List.getElem?_eq_getElem (by omega)]; rfl⟩
    obtain ⟨l, hl, hall⟩ := lists_of key
    have hmb : (l.map fun q => q.2.1).length = len := by rw [List.length_map, hl]
    have hat : ∀ i, i < len → ∃ q, l[i]? = some q := fun i hi => ⟨_, List.getElem?_eq_getElem (by omega)⟩
    have hfi : ∀ (i : Nat) q, l[i]? = some q → (l.map (·.1)).getD i [] = q.1 := fun i q hq => by
      rw [List.getD_eq_getElem?_getD, List.getElem?_map, hq]
      rfl
    refine ⟨some a, cap, l.map fun q => q.2.1, fun i => (l.map (·.1)).getD i [], by rw [hmb], by omega, fun i hi => ?_, fun i e he => ?_, ?_⟩
    · rw [hmb] at hi
      obtain ⟨q0, hq0⟩ := hat 0 (by omega)
      obtain ⟨q, hq⟩ := hat i hi
      obtain ⟨k0, _⟩ := hall 0 q0 hq0
      obtain ⟨k1, _⟩ := hall i q hq
      have hs : a.spot = none := by
        obtain ⟨_, h2, h3⟩ := World.cells?_some k0
        have h4 := h3 0 hpos
        rw [List.getElem?_eq_getElem (by omega)] at h4
        have h5 : (a.add (0 * sz)).add 0 = a := by simp [Addr.add]
        rw [h5] at h4
        unfold World.cell? at h4
        split at h4
        · split at h4
          · cases h4
          · rename_i hns
            simpa using hns
        · cases h4
      have hb : a.block < W.heap.size := by
        have h1 := World.cells?_block k0 hpos
        have h5 : a.add (0 * sz) = a := by simp [Addr.add]
        rwa [h5] at h1
      obtain ⟨b, o, s⟩ := a
      simp at hs
      subst hs
      exact ⟨b, o, rfl, hb, by show Cells W b (o + i * sz) ((l.map (·.1)).getD i []); rw [hfi i q hq]; exact (cells_open rfl k1).1⟩
    · rw [List.getElem?_map, Option.map_eq_some_iff] at he
      obtain ⟨q, hq, rfl⟩ := he
      show R ((l.map (·.1)).getD i []) q.2.1
      rw [hfi i q hq]
      exact (hall i q hq).2.1
    · have := bulk_sum B (l.map fun q => q.2.1) (elems.map (·.1)) (by rw [hmb, List.length_map, hlen]) fun i e d he hd => by
        rw [List.getElem?_map, Option.map_eq_some_iff] at he
        obtain ⟨q, hq, rfl⟩ := he
        obtain ⟨_, _, k3, k4⟩ := hall i q hq
        rw [k4] at hd
        cases hd
        exact k3
      simp only [Rows.uptoBulk]
      omega
theorem wts_sum : ∀ l : List Ty, wts l = (l.map wt).sum
  | [] => by simp [wts]
  | e :: r => by simp only [wts, List.map_cons, List.sum_cons, wts_sum r]

theorem cT : Tryz.prog.cellsOf 26 = 8 := by kernel_rfl
theorem cM : Tryz.prog.cellsOf 92 = 9 := by kernel_rfl
theorem cD : Tryz.prog.cellsOf 51 = 12 := by kernel_rfl
theorem cI : Tryz.prog.cellsOf 3 = 1 := by kernel_rfl
theorem cK : Tryz.prog.cellsOf 23 = 1 := by kernel_rfl
theorem cB : Tryz.prog.cellsOf 4 = 1 := by kernel_rfl
theorem cS : Tryz.prog.cellsOf 9 = 1 := by kernel_rfl
theorem cLT : Tryz.prog.cellsOf 24 = 1 := by kernel_rfl
theorem cLM : Tryz.prog.cellsOf 49 = 1 := by kernel_rfl
theorem list8 {α : Type} {l : List α} (h : l.length = 8) : ∃ a b c d e f g i, l = [a, b, c, d, e, f, g, i] := by
  match l, h with
  | [a, b, c, d, e, f, g, i], _ => exact ⟨a, b, c, d, e, f, g, i, rfl⟩
theorem one {α : Type} {a b : α} (h : [a] = [b]) : a = b := by simpa using h
theorem bulk_str (s : ByteArray) : Rows.uptoBulk (DataW.lit (H := H) (.string s.data.toList)) = s.size + 1 := by
  simp only [Rows.uptoBulk, Array.length_toList]; rfl
theorem ty_open : ∀ (fuel : Nat) (cs : List Value) (x : DataW H × List MemPlace), DataW.trod enc Tryz.prog W 0 sp held fuel 26 cs = some x → ∃ t, TyV W (fun b => b < W.heap.size) cs t ∧ wt t ≤ Rows.uptoBulk x.1 := by
  intro fuel
  induction fuel using Nat.strongRecOn with
  | ind fuel ih =>
    intro cs x h
    obtain ⟨xs, n, rfl, rfl, hl, hlen, hf⟩ := DataW.trod_struct Tryz.underlying26 h
    rw [cT] at hl
    obtain ⟨c0, c1, c2, c3, c4, c5, c6, c7, rfl⟩ := list8 hl
    obtain ⟨x0, x1, x2, x3, x4, x5, x6, x7, rfl⟩ := list8 (l := xs) hlen
    have h0 : DataW.trod enc Tryz.prog W 0 sp held n 23 [c0] = some x0 := by
      have h := hf 0 _ rfl
      change DataW.trod enc Tryz.prog W 0 sp held n 23 (List.take (Tryz.prog.cellsOf 23) (List.drop 0 [c0, c1, c2, c3, c4, c5, c6, c7])) = some x0 at h
      rw [cK] at h
      exact h
    have h1 : DataW.trod enc Tryz.prog W 0 sp held n 3 [c1] = some x1 := by
      have h := hf 1 _ rfl
      change DataW.trod enc Tryz.prog W 0 sp held n 3 (List.take (Tryz.prog.cellsOf 3) (List.drop 1 [c0, c1, c2, c3, c4, c5, c6, c7])) = some x1 at h
      rw [cI] at h
      exact h
    have h2 : DataW.trod enc Tryz.prog W 0 sp held n 3 [c2] = some x2 := by
      have h := hf 2 _ rfl
      change DataW.trod enc Tryz.prog W 0 sp held n 3 (List.take (Tryz.prog.cellsOf 3) (List.drop 2 [c0, c1, c2, c3, c4, c5, c6, c7])) = some x2 at h
      rw [cI] at h
      exact h
    have h3 : DataW.trod enc Tryz.prog W 0 sp held n 4 [c3] = some x3 := by
      have h := hf 3 _ rfl
      change DataW.trod enc Tryz.prog W 0 sp held n 4 (List.take (Tryz.prog.cellsOf 4) (List.drop 3 [c0, c1, c2, c3, c4, c5, c6, c7])) = some x3 at h
      rw [cB] at h
      exact h
    have h4 : DataW.trod enc Tryz.prog W 0 sp held n 24 [c4] = some x4 := by
      have h := hf 4 _ rfl
      change DataW.trod enc Tryz.prog W 0 sp held n 24 (List.take (Tryz.prog.cellsOf 24) (List.drop 4 [c0, c1, c2, c3, c4, c5, c6, c7])) = some x4 at h
      rw [cLT] at h
      exact h
    have h5 : DataW.trod enc Tryz.prog W 0 sp held n 9 [c5] = some x5 := by
      have h := hf 5 _ rfl
      change DataW.trod enc Tryz.prog W 0 sp held n 9 (List.take (Tryz.prog.cellsOf 9) (List.drop 5 [c0, c1, c2, c3, c4, c5, c6, c7])) = some x5 at h
      rw [cS] at h
      exact h
    have h6 : DataW.trod enc Tryz.prog W 0 sp held n 9 [c6] = some x6 := by
      have h := hf 6 _ rfl
      change DataW.trod enc Tryz.prog W 0 sp held n 9 (List.take (Tryz.prog.cellsOf 9) (List.drop 6 [c0, c1, c2, c3, c4, c5, c6, c7])) = some x6 at h
      rw [cS] at h
      exact h
    have h7 : DataW.trod enc Tryz.prog W 0 sp held n 4 [c7] = some x7 := by
      have h := hf 7 _ rfl
      change DataW.trod enc Tryz.prog W 0 sp held n 4 (List.take (Tryz.prog.cellsOf 4) (List.drop 7 [c0, c1, c2, c3, c4, c5, c6, c7])) = some x7 at h
      rw [cB] at h
      exact h
    obtain ⟨k, e0, rfl, _⟩ := DataW.trod_int Tryz.underlying23 h0
    obtain ⟨m, e1, rfl, _⟩ := DataW.trod_int Tryz.underlying3 h1
    obtain ⟨c, e2, rfl, _⟩ := DataW.trod_int Tryz.underlying3 h2
    obtain ⟨vr, e3, rfl⟩ := DataW.trod_bool Tryz.underlying4 h3
    obtain ⟨nm, e5, rfl, _⟩ := DataW.trod_string Tryz.underlying9 h5
    obtain ⟨tg, e6, rfl, _⟩ := DataW.trod_string Tryz.underlying9 h6
    obtain ⟨em, e7, rfl⟩ := DataW.trod_bool Tryz.underlying4 h7
    obtain rfl := one e0
    obtain rfl := one e1
    obtain rfl := one e2
    obtain rfl := one e3
    obtain rfl := one e5
    obtain rfl := one e6
    obtain rfl := one e7
    obtain ⟨a, cp, es, f, rfl, hcp, hsl, hR, hB⟩ := slice_open (TyV W (fun b => b < W.heap.size)) wt Tryz.underlying24 cT (by decide) h4 fun q hq => ih q (by omega)
    refine ⟨_, .mk k m c vr es nm tg em a cp f hR hsl hcp, ?_⟩
    rw [wt_eq]
    simp only [Ty.elems, Ty.name, Ty.tag, wts_sum, List.map_cons, List.map_nil, Rows.uptoBulk, Rows.uptoBulkAll, Array.length_toList]
    have k5 : nm.data.size = nm.size := rfl
    have k6 : tg.data.size = tg.size := rfl
    omega
theorem me_open (fuel : Nat) (cs : List Value) (x : DataW H × List MemPlace) (h : DataW.trod enc Tryz.prog W 0 sp held fuel 92 cs = some x) : ∃ m : Me, MeV W (fun b => b < W.heap.size) cs m ∧ wt m.fn ≤ Rows.uptoBulk x.1 := by
  obtain ⟨xs, n, rfl, rfl, hl, hlen, hf⟩ := DataW.trod_struct Tryz.underlying92 h
  rw [cM] at hl
  match cs, hl, xs, hlen with
  | c0 :: ts, hl, [x0, x1], _ =>
    have hts : ts.length = 8 := by simpa using hl
    have h0 : DataW.trod enc Tryz.prog W 0 sp held n 4 [c0] = some x0 := by
      have h := hf 0 _ rfl
      change DataW.trod enc Tryz.prog W 0 sp held n 4 (List.take (Tryz.prog.cellsOf 4) (List.drop 0 (c0 :: ts))) = some x0 at h
      rw [cB] at h
      exact h
    have h1 : DataW.trod enc Tryz.prog W 0 sp held n 26 ts = some x1 := by
      have h := hf 1 _ rfl
      change DataW.trod enc Tryz.prog W 0 sp held n 26 (List.take (Tryz.prog.cellsOf 26) (List.drop 1 (c0 :: ts))) = some x1 at h
      rw [cT] at h
      rw [show List.take 8 (List.drop 1 (c0 :: ts)) = ts from by rw [List.drop_succ_cons, List.drop_zero, List.take_of_length_le (by omega)]] at h
      exact h
    obtain ⟨p, e0, rfl⟩ := DataW.trod_bool Tryz.underlying4 h0
    obtain rfl := one e0
    obtain ⟨t, k1, k2⟩ := ty_open n ts x1 h1
    exact ⟨⟨p, t⟩, ⟨ts, rfl, k1⟩, by simp only [List.map_cons, List.map_nil, Rows.uptoBulk, Rows.uptoBulkAll]; omega⟩
theorem de_open (fuel : Nat) (cs : List Value) (x : DataW H × List MemPlace) (h : DataW.trod enc Tryz.prog W 0 sp held fuel 51 cs = some x) : ∃ e : De, DeV W (fun b => b < W.heap.size) cs e ∧ wtDe e ≤ Rows.uptoBulk x.1 := by
  obtain ⟨xs, n, rfl, rfl, hl, hlen, hf⟩ := DataW.trod_struct Tryz.underlying51 h
  rw [cD] at hl
  match cs, hl, xs, hlen with
  | [c0, c1, c2, t0, t1, t2, t3, t4, t5, t6, t7, c3], _, [x0, x1, x2, x3, x4], _ =>
    have h0 : DataW.trod enc Tryz.prog W 0 sp held n 9 [c0] = some x0 := by
      have h := hf 0 _ rfl
      change DataW.trod enc Tryz.prog W 0 sp held n 9 (List.take (Tryz.prog.cellsOf 9) (List.drop 0 [c0, c1, c2, t0, t1, t2, t3, t4, t5, t6, t7, c3])) = some x0 at h
      rw [cS] at h
      exact h
    have h1 : DataW.trod enc Tryz.prog W 0 sp held n 3 [c1] = some x1 := by
      have h := hf 1 _ rfl
      change DataW.trod enc Tryz.prog W 0 sp held n 3 (List.take (Tryz.prog.cellsOf 3) (List.drop 1 [c0, c1, c2, t0, t1, t2, t3, t4, t5, t6, t7, c3])) = some x1 at h
      rw [cI] at h
      exact h
    have h2 : DataW.trod enc Tryz.prog W 0 sp held n 4 [c2] = some x2 := by
      have h := hf 2 _ rfl
      change DataW.trod enc Tryz.prog W 0 sp held n 4 (List.take (Tryz.prog.cellsOf 4) (List.drop 2 [c0, c1, c2, t0, t1, t2, t3, t4, t5, t6, t7, c3])) = some x2 at h
      rw [cB] at h
      exact h
    have h3 : DataW.trod enc Tryz.prog W 0 sp held n 26 [t0, t1, t2, t3, t4, t5, t6, t7] = some x3 := by
      have h := hf 3 _ rfl
      change DataW.trod enc Tryz.prog W 0 sp held n 26 (List.take (Tryz.prog.cellsOf 26) (List.drop 3 [c0, c1, c2, t0, t1, t2, t3, t4, t5, t6, t7, c3])) = some x3 at h
      rw [cT] at h
      exact h
    have h4 : DataW.trod enc Tryz.prog W 0 sp held n 49 [c3] = some x4 := by
      have h := hf 4 _ rfl
      change DataW.trod enc Tryz.prog W 0 sp held n 49 (List.take (Tryz.prog.cellsOf 49) (List.drop 11 [c0, c1, c2, t0, t1, t2, t3, t4, t5, t6, t7, c3])) = some x4 at h
      rw [cLM] at h
      exact h
    obtain ⟨nm, e0, rfl, _⟩ := DataW.trod_string Tryz.underlying9 h0
    obtain ⟨q, e1, rfl, _⟩ := DataW.trod_int Tryz.underlying3 h1
    obtain ⟨al, e2, rfl⟩ := DataW.trod_bool Tryz.underlying4 h2
    obtain rfl := one e0
    obtain rfl := one e1
    obtain rfl := one e2
    obtain ⟨t, k1, k2⟩ := ty_open n _ x3 h3
    obtain ⟨a, cp, es, f, rfl, hcp, hsl, hR, hB⟩ := slice_open (MeV W (fun b => b < W.heap.size)) (fun m => wt m.fn) Tryz.underlying49 cM (by decide) h4 fun q _ => me_open q
    refine ⟨⟨nm, q, al, t, es⟩, ⟨_, a, cp, f, rfl, k1, hsl, hR⟩, ?_⟩
    have k5 : nm.data.size = nm.size := rfl
    simp only [wtDe, wtM, List.map_cons, List.map_nil, Rows.uptoBulk, Rows.uptoBulkAll, Array.length_toList] at hB ⊢
    omega
/-- declarations among the arguments -/
theorem ds_of {v : Value} {base : Nat} {d : DataW H} {ps : List MemPlace} (hv : Value.okWide Tryz.prog W .any base 22 v) (h : DataW.Trod enc Tryz.prog W 0 sp held 22 v d ps) : ∃ (D : List De) (a : Option Addr) (cp : Nat), v = .slice a D.length cp ∧ DsV W (fun b => b < W.heap.size) v D ∧ wtD D + 1 ≤ Rows.uptoBulk d := by
  obtain ⟨a0, len, cap, rfl⟩ := okWide_slice Tryz.underlying22 hv
  obtain ⟨fuel, hf⟩ := h
  obtain ⟨a, cp, es, f, he, hcp, hsl, hR, hB⟩ := slice_open (DeV W (fun b => b < W.heap.size)) wtDe Tryz.underlying22 cD (by decide) hf fun q _ => de_open q
  exact ⟨es, a, cp, he, ⟨a, cp, f, he, hsl, hR⟩, hB⟩
/-- a type among the arguments -/
theorem ty_of {v : Value} {base : Nat} {d : DataW H} {ps : List MemPlace} (hv : Value.okWide Tryz.prog W .any base 26 v) (h : DataW.Trod enc Tryz.prog W 0 sp held 26 v d ps) : ∃ (t : Ty) (a : Option Addr) (cp : Nat), v = .agg (tyc t a cp).toArray ∧ TysV W (fun b => b < W.heap.size) a cp t.elems ∧ wt t ≤ Rows.uptoBulk d := by
  obtain ⟨cs, rfl, _⟩ := okWide_struct Tryz.underlying26 hv
  obtain ⟨fuel, hf⟩ := h
  obtain ⟨t, k1, k2⟩ := ty_open fuel _ _ hf
  obtain ⟨a, cp, k3, k4⟩ := k1.tys
  refine ⟨t, a, cp, ?_, k4, k2⟩
  rw [show cs = cs.toList.toArray from by simp]
  have : cs.toList = tyc t a cp := k3
  rw [this]
end
end Go.Proofs.YtpiegpegjbmlkaaGreatDoor
namespace Go.Proofs.YtpiegpegjbmlkaaGreatDoor
open Go Go.Kd Go.ChangeShapes Go.WideShapes Go.ChangeAt Go.RowKit
set_option maxRecDepth 100000

def nums : DataW Unit → List Int
  | .agg l => l.map fun d => match d with | .lit (.int _ z) => z | _ => 0
  | _ => []
def prpOk (zs : List Int) : Bool := (List.range 128).all fun n => match zs[n]? with
  | some (.ofNat v) => decide (v < 256) && (decide (v &&& 96 = 32) == (decide (65 ≤ n) && decide (n ≤ 90)))
  | _ => false
theorem prp_laid {W : World} (h : laidMetH Tryz.prog theLaid W) : Prp W := by
  have h : laidMet Tryz.prog theLaid W := h
  obtain ⟨ps, ⟨_, _, _, _, _, _, _, _, _, _, h2, _⟩, _⟩ := h
  obtain ⟨g, t, cs, fuel, p, q, hg, ht, hvar, hd, _, _⟩ := h2
  have hg0 : Tryz.prog.globalNamed "unicode.properties" = some gP := by kernel_rfl
  obtain rfl := Option.some.inj (hg0.symm.trans hg)
  have hty : (Tryz.prog.globals[gP]?).map (·.type) = some 347 := by kernel_rfl
  obtain rfl := Option.some.inj (hty.symm.trans ht)
  have hcs := Lib.cells_of_tab (k := .u8) (zs := nums Rows.laid_unicode_properties) Tryz.underlying347 Tryz.underlying5 (by kernel_rfl) (by kernel_rfl) hd
  have hok : prpOk (nums Rows.laid_unicode_properties) = true := by kernel_rfl
  unfold World.var? at hvar
  rw [hg0] at hvar
  simp only [Option.bind_some] at hvar
  split at hvar
  · rename_i cs' t' fz hh
    have e : cs' = cs := Option.some.inj hvar
    refine ⟨cs', t', fz, hh, fun n hn => ?_⟩
    have h3 := List.all_eq_true.1 hok n (List.mem_range.2 hn)
    have h4 : cs'[n]? = ((nums Rows.laid_unicode_properties).map fun z => Value.int .u8 z)[n]? := by rw [e, ← hcs]; simp
    rw [h4, List.getElem?_map]
    split at h3
    · rename_i v hv
      rw [hv]
      simp only [Bool.and_eq_true, decide_eq_true_eq, beq_iff_eq] at h3
      refine ⟨v, rfl, h3.1, ?_⟩
      have h5 := h3.2
      constructor
      · intro h6
        rw [decide_eq_true h6] at h5
        simpa using h5.symm
      · intro h6
        rw [decide_eq_true h6.1, decide_eq_true h6.2] at h5
        simpa using h5
    · cases h3
  · cases hvar
theorem small_of {H : Type} {l : List (DataW H)} (h : Rows.uptoSmall H l = true) : Rows.uptoBulkAll l ≤ 1048576 := of_decide_eq_true h
end Go.Proofs.YtpiegpegjbmlkaaGreatDoor
namespace Go.Proofs.YtpiegpegjbmlkaaGreatDoor
open Go Go.Kd Go.ChangeShapes Go.WideShapes Go.ChangeAt Go.RowKit
set_option maxRecDepth 100000
variable {H : Type} {enc : TypeId × Value → H} {W : World} {sp : Nat → Bool} {held : Bool}

theorem str_of {v : Value} {base : Nat} {d : DataW H} {ps : List MemPlace} (hv : Value.okWide Tryz.prog W .any base 9 v) (h : DataW.Trod enc Tryz.prog W 0 sp held 9 v d ps) : ∃ s : ByteArray, v = .string s ∧ s.size + 1 ≤ Rows.uptoBulk d := by
  obtain ⟨s0, rfl⟩ := okWide_string Tryz.underlying9 hv
  obtain ⟨fuel, hf⟩ := h
  obtain ⟨s, e, hx, _⟩ := DataW.trod_string Tryz.underlying9 hf
  simp [Value.cells] at e
  subst e
  simp only [Prod.mk.injEq] at hx
  refine ⟨s0, rfl, ?_⟩
  rw [hx.1, bulk_str]
  exact Nat.le_refl _
end Go.Proofs.YtpiegpegjbmlkaaGreatDoor
namespace Go.Proofs.YtpiegpegjbmlkaaGreatDoor
open Go Go.Kd
set_option maxRecDepth 100000

theorem isIf_norm (y : Ty) : isIf y ↔ (norm y).kind = 9 := by
  refine ⟨isIf.norm9, fun h => ?_⟩
  rcases norm_cases y with ⟨h1, h2⟩ | ⟨h1, h2, _⟩ | ⟨h1, h2, _⟩
  · rw [h2] at h; exact .inl h
  · omega
  · exact .inr ⟨h1, h2⟩
/-- what build answers, in short -/
theorem c_build' {D : List De} {w0 : World} {a : Option Addr} {cp : Nat} {p : Nat → Prop} (hp : Prp w0) (hV : ValidD D) (hwd : wtD D ≤ 16777216) (hd : DsV w0 p (.slice a D.length cp) D) (hpb : ∀ b, p b → b < w0.heap.size) :
    Calls Tryz.prog 44 #[.slice a D.length cp] w0 (Ret fun r w' => ∃ K s bb, r = pt bb ∧ K.D = D ∧ K.N = w0.heap.size ∧ Ext w0 w' ∧ Blt K s w' bb) := by
  refine (c_build hp hV hwd hd hpb).mono fun x w' ⟨v, k0, nb, bb, w1, x1, s, base, msv, mfb, k1, k2, k3, k4, k5⟩ => ⟨v, k0, ⟨w0.heap.size, nb, D⟩, s, bb, k1, rfl, rfl, ⟨x1.below.trans k2⟩, k4⟩
theorem ext_sta {K : Cfg} {l : Nat} {w0 w w' : World} (x : Ext w0 w) (hN : w0.heap.size ≤ K.N) (s : Sta K l w w') : Ext w0 w' := ⟨x.below.trans ⟨s.os, s.tape, s.output, s.size, fun d hd => s.old d (by omega) (by have := x.size; omega)⟩⟩
end Go.Proofs.YtpiegpegjbmlkaaGreatDoor
namespace Go.Proofs.YtpiegpegjbmlkaaGreatDoor
open Go Go.Kd
set_option maxRecDepth 100000

theorem c_zzFits1 (t : Ty) (a1 : Option Addr) (c1 : Nat) (w : World) (hwt : wt t ≤ 16777216) : Calls Tryz.prog 15 #[.agg (tyc t a1 c1).toArray] w (Ret fun r w' => r = .bool true ∧ Ext w w') := by
  have hl : t.elems.length ≤ 16777216 := by
    have h1 : ∀ l : List Ty, l.length ≤ wts l := fun l => by
      induction l with
      | nil => exact Nat.zero_le _
      | cons e r ih =>
        have := wt_pos e
        simp only [List.length_cons, wts]
        omega
    have := h1 t.elems
    have := wt_eq t
    omega
  have hn : t.name.size ≤ 16777216 := by have := wt_eq t; omega
  have hg : t.tag.size ≤ 16777216 := by have := wt_eq t; omega
  refine W.enter (args := [.agg (tyc t a1 c1).toArray]) Tryz.func15 rfl Tryz.ntmps15 rfl rfl ?_
  refine zst ?_
  refine WU.stp rfl rfl rfl (by first | exact stp_box rfl rfl | exact stp_box1 rfl rfl) ?_
  rintro _ w1 ⟨b1, rfl, n1⟩
  have ib1 : Has w1 b1 (.cells (tyc t a1 c1).toArray 26) := n1.has
  refine zst ?_
  rw [show decide ((2147483647 : Int) < (t.elems.length : Int)) = false by simp; omega]
  refine zst ?_
  rw [show decide ((2147483647 : Int) < (t.name.size : Int)) = false by simp; omega]
  refine zst ?_
  rw [show decide ((2147483647 : Int) < (t.tag.size : Int)) = false by simp; omega]
  refine zst ?_
  exact fin1 (.inl rfl) rfl rfl ⟨rfl, n1.ext⟩
theorem tys_one {w : World} {t : Ty} {a : Option Addr} {c r : Nat} (hr : Has w r (.cells (tyc t a c).toArray 26)) {p : Nat → Prop} (hp : p r) (ht : TysV w p a c t.elems) : TysV w p (some ⟨r, 0, none⟩) 1 [t] :=
  ⟨Nat.le_refl _, fun _ => tyc t a c, fun i hi => ⟨r, 0, rfl, hp, by
    obtain rfl : i = 0 := by simpa using hi
    exact Cells.has hr⟩, fun i e he => by
    match i with
    | 0 => simp at he; subst he; exact .of_tys ht
    | i + 1 => simp at he⟩

end Go.Proofs.YtpiegpegjbmlkaaGreatDoor
namespace Go.Kd
variable {P : Program} {e : Env} {w : World} {d : Option Tmp} {ty t t2 : TypeId} {pos : String} {aft : Array Edge} {g : Option (Nat × Bool)} {x y z : Operand}
theorem run_equal_ifo {u : TypeId} {ms : Array (String × TypeId)} [h : Und P t (.interface ms)] [hp : PtrT P u] [hc : CmpT P u] {a b : Option Addr} (ha : ∀ c, a = some c → Pl w c.block) (hb : ∀ c, b = some c → Pl w c.block) :
    (Op.equal t (.iface u (.pointer a)) (.iface u (.pointer b))).run P w = .ok (decide (a = b)) w := by
  obtain ⟨i, h1, h2⟩ := hc.at_
  obtain ⟨el, j, h3, h4, h5⟩ := hp.at_
  have hk : ∀ k : Nat, (Op.equalIn (k + 1) u (.pointer a) (.pointer b)).run P w = .ok (decide (a = b)) w := fun k => by
    cases a with
    | none => cases b <;> simp [Op.equalIn, run_underlying h3]
    | some a => cases b with
      | none => simp [Op.equalIn, run_underlying h3]
      | some b =>
        rw [run_equalIn_ptr (ha a rfl) (hb b rfl)]
        simp
  have hq : ∀ k : Nat, (Op.equalIn (k + 1 + 1) t (.iface u (.pointer a)) (.iface u (.pointer b))).run P w = .ok (decide (a = b)) w := fun k => by
    rw [Op.equalIn]
    simp [run_underlying h.at_, typeInfo, h1, h2, hk k]
  exact hq 9998
/-- two interface values that hold pointers -/
theorem yld_eql_ifo {u u2 : TypeId} {ms : Array (String × TypeId)} [h : Und P t (.interface ms)] {a b : Option Addr} (hp : u = u2 → PtrT P u) (hc : u = u2 → CmpT P u) (hx : ev e x = some (.iface u (.pointer a))) (hy : ev e y = some (.iface u2 (.pointer b))) (ha : ∀ c, a = some c → Pl w c.block) (hb : ∀ c, b = some c → Pl w c.block) :
    Yld P e ⟨d, .binOp .eql t x y t2, ty, pos, aft, g⟩ (.bool (decide (u = u2 ∧ a = b))) w := ⟨fun ρ hρ w' hw => by
  by_cases hu : u = u2
  · subst hu
    have := hp rfl
    have := hc rfl
    have he := run_equal_ifo (P := P) (t := t) (u := u) (w := w') (a := a) (b := b) (fun c hc => (ha c hc).ext' hw) (fun c hc => (hb c hc).ext' hw)
    rw [show decide (u = u ∧ a = b) = decide (a = b) from by simp]
    exact run_binOp_plain (hρ x _ hx) (hρ y _ hy) eqGuard_if (by simp only [binOp, Sem.run_bind, he, Result.andThen_ok]; rfl)
  · rw [decide_eq_false (fun h => hu h.1)]
    exact (yld_eql_ift hu hx hy).out ρ hρ w' hw⟩
end Go.Kd
namespace Go.Proofs.YtpiegpegjbmlkaaGreatDoor
open Go Go.Kd
set_option maxRecDepth 100000

abbrev tPR : Nat := 233
abbrev prc (x y : Nat) (a : Option Addr) : Array Value := #[pt x, pt y, .pointer a]
theorem c_pair (p q x y x' y' : Nat) (a a' : Option Addr) (w : World) (hp : Has w p (.cells (prc x y a) tPR)) (hq : Has w q (.cells (prc x' y' a') tPR)) (hx : Pl w x) (hy : Pl w y) (hx' : Pl w x') (hy' : Pl w y') (hne : ¬ (x = x' ∧ y = y')) (hne' : ¬ (x = y' ∧ y = x')) :
    Calls Tryz.prog 138 #[pt p, pt q] w (Ret fun r w' => r = .bool false ∧ Ext w w') := by
  refine W.enter (args := [pt p, pt q]) Tryz.func138 rfl Tryz.ntmps138 rfl rfl ?_
  refine zst ?_
  refine W.regD [(0, .q), (1, .q), (2, .q), (3, .q), (4, .q), (5, .q), (6, .q), (7, .q), (8, .q), (9, .q), (10, .q), (11, .q), (12, .q), (13, .q), (14, .q), (15, .q), (16, .q), (17, .q), (18, .q), (19, .q), (20, .q), (21, .q), (22, .q), (23, .q), (24, .q), (25, .q), (26, .q), (27, .q), (28, .q), (29, .q), (30, .q), (31, .q), (32, .q), (33, .q), (34, .q), (35, .q), (36, .q), (37, .q), (38, .q), (39, .q), (40, .q), (41, .q), (42, .q)] (by kernel_rfl) (by kernel_rfl) rfl ?_
  intro w1 x1 _
  have kp := hp.ext' x1
  have kq := hq.ext' x1
  have px := hx.ext' x1
  have py := hy.ext' x1
  have px' := hx'.ext' x1
  have py' := hy'.ext' x1
  refine zsd ?_
  refine WD.yld rfl rfl rfl rfl (yld_eql_ptr rfl rfl) ?_
  by_cases h1 : x = x'
  · have h2 : y ≠ y' := fun h => hne ⟨h1, h⟩
    rw [decide_eq_true (show (⟨x, 0, none⟩ : Addr) = ⟨x', 0, none⟩ by rw [h1])]
    refine zsd ?_
    refine WD.yld rfl rfl rfl rfl (yld_eql_ptr rfl rfl) ?_
    rw [decide_eq_false (show ¬ (⟨y, 0, none⟩ : Addr) = ⟨y', 0, none⟩ from fun h => h2 (congrArg Addr.block h))]
    refine zsd ?_
    refine WD.yld rfl rfl rfl rfl (yld_eql_ptr rfl rfl) ?_
    by_cases h3 : x = y'
    · rw [decide_eq_true (show (⟨x, 0, none⟩ : Addr) = ⟨y', 0, none⟩ by rw [h3])]
      refine zsd ?_
      refine WD.yld rfl rfl rfl rfl (yld_eql_ptr rfl rfl) ?_
      rw [decide_eq_false (show ¬ (⟨y, 0, none⟩ : Addr) = ⟨x', 0, none⟩ from fun h => hne' ⟨h3, congrArg Addr.block h⟩)]
      refine zsd ?_
      refine zst ?_
      exact fin1 (.inl rfl) rfl rfl ⟨rfl, x1⟩
    · rw [decide_eq_false (show ¬ (⟨x, 0, none⟩ : Addr) = ⟨y', 0, none⟩ from fun h => h3 (congrArg Addr.block h))]
      refine zsd ?_
      refine zst ?_
      exact fin1 (.inl rfl) rfl rfl ⟨rfl, x1⟩
  · rw [decide_eq_false (show ¬ (⟨x, 0, none⟩ : Addr) = ⟨x', 0, none⟩ from fun h => h1 (congrArg Addr.block h))]
    refine zsd ?_
    refine WD.yld rfl rfl rfl rfl (yld_eql_ptr rfl rfl) ?_
    by_cases h3 : x = y'
    · rw [decide_eq_true (show (⟨x, 0, none⟩ : Addr) = ⟨y', 0, none⟩ by rw [h3])]
      refine zsd ?_
      refine WD.yld rfl rfl rfl rfl (yld_eql_ptr rfl rfl) ?_
      rw [decide_eq_false (show ¬ (⟨y, 0, none⟩ : Addr) = ⟨x', 0, none⟩ from fun h => hne' ⟨h3, congrArg Addr.block h⟩)]
      refine zsd ?_
      refine zst ?_
      exact fin1 (.inl rfl) rfl rfl ⟨rfl, x1⟩
    · rw [decide_eq_false (show ¬ (⟨x, 0, none⟩ : Addr) = ⟨y', 0, none⟩ from fun h => h3 (congrArg Addr.block h))]
      refine zsd ?_
      refine zst ?_
      exact fin1 (.inl rfl) rfl rfl ⟨rfl, x1⟩
end Go.Proofs.YtpiegpegjbmlkaaGreatDoor
namespace Go.Proofs.YtpiegpegjbmlkaaGreatDoor
open Go Go.Kd
set_option maxRecDepth 100000

mutual
def dX : X → Nat
  | .leaf _ _ => 0
  | .node _ _ _ _ _ es => dXs es + 1
def dXs : List X → Nat
  | [] => 0
  | x :: r => max (dX x) (dXs r)
end
theorem dXs_at : ∀ {l : List X} {i : Nat} {x : X}, l[i]? = some x → dX x ≤ dXs l
  | [], i, x, h => by simp at h
  | a :: r, 0, x, h => by simp at h; subst h; simp only [dXs]; exact Nat.le_max_left _ _
  | a :: r, i + 1, x, h => by
    have := dXs_at (l := r) (i := i) (by simpa using h)
    simp only [dXs]
    exact Nat.le_trans this (Nat.le_max_right _ _)
theorem dX_at {k n c : Int} {vr : Bool} {an : List An} {es : List X} {i : Nat} {x : X} (h : es[i]? = some x) : dX x < dX (.node k n c vr an es) := by
  have := dXs_at h
  simp only [dX]
  omega
theorem Exp.congr {D : List De} {t t' : Ty} {x : X} (hu : unaliasT D t = unaliasT D t') (h : Exp D t x) : Exp D t' x := by
  cases h with
  | leaf _ hk => rw [hu] at hk ⊢; exact .leaf t' hk
  | plain _ es h2 h8 hl he => rw [hu] at h2 h8 hl he ⊢; exact .plain t' es h2 h8 hl he
  | iface _ ms es h9 hi hl he => rw [hu] at h9 hi; exact .iface t' ms es h9 hi hl he

/-! ### Sorted methods -/
theorem cmpM_congr {m m2 n : Mt} (h : keyM m = keyM m2) : cmpM n m < 0 ↔ cmpM n m2 < 0 := by
  unfold keyM keyOf at h
  obtain ⟨h1, h2⟩ := Prod.ext_iff.1 h
  simp only at h1 h2
  unfold cmpM
  rw [cmpN_lt, cmpN_lt, ← h1]
  rw [← h1] at h2
  cases he : expo m.name.toList
  · rw [he] at h2
    simp only [Bool.false_eq_true, if_false] at h2
    rw [h2]
  · constructor <;> rintro (h | h | ⟨e, h, _⟩)
    · exact .inl h
    · exact .inr (.inl h)
    · rw [e, he] at h; cases h
    · exact .inl h
    · exact .inr (.inl h)
    · rw [e, he] at h; cases h
theorem cmpM_anti (m n : Mt) : cmpM n m = - cmpM m n := cmpN_anti _ _ _ _
theorem srt_keys : ∀ (l l' : List Mt), Srtd l → Srtd l' → l.length = l'.length → (∀ m ∈ l, keyM m ∈ l'.map keyM) → ∀ (i : Nat) m m', l[i]? = some m → l'[i]? = some m' → keyM m = keyM m'
  | [], _, _, _, _, _, i, m, m', h, _ => by simp at h
  | _ :: _, [], _, _, hl, _, _, _, _, _, _ => by simp at hl
  | a :: r, b :: r', hs, hs', hl, hk, i, m, m', h, h' => by
    have hn := hs.nodup
    have hback : ∀ k ∈ (b :: r').map keyM, k ∈ (a :: r).map keyM := sub_all hn (fun k hk' => by
      obtain ⟨m, hm, rfl⟩ := List.mem_map.1 hk'
      exact hk m hm) (by simpa using Nat.le_of_eq hl.symm)
    have hab : keyM a = keyM b := by
      refine Classical.byContradiction fun hne => ?_
      obtain ⟨m2, hm2, e2⟩ := List.mem_map.1 (hk a (List.mem_cons_self ..))
      obtain ⟨m3, hm3, e3⟩ := List.mem_map.1 (hback (keyM b) (List.mem_map_of_mem (List.mem_cons_self ..)))
      have h2 : m2 ∈ r' := (List.mem_cons.1 hm2).resolve_left fun e => hne (by rw [← e2, e])
      have h3 : m3 ∈ r := (List.mem_cons.1 hm3).resolve_left fun e => hne (by rw [← e3, e])
      obtain ⟨j2, hj2⟩ := List.getElem?_of_mem h2
      obtain ⟨j3, hj3⟩ := List.getElem?_of_mem h3
      have c2 := hs' 0 (j2 + 1) b m2 (by omega) rfl (by simpa using hj2)
      have c3 := hs 0 (j3 + 1) a m3 (by omega) rfl (by simpa using hj3)
      rw [cmpM_congr e2] at c2
      rw [cmpM_congr e3] at c3
      have q := cmpM_anti a b
      omega
    match i with
    | 0 =>
      simp at h h'
      subst h h'
      exact hab
    | i + 1 =>
      refine srt_keys r r' (fun i j m m' hij hi hj => hs (i + 1) (j + 1) m m' (by omega) (by simpa using hi) (by simpa using hj)) (fun i j m m' hij hi hj => hs' (i + 1) (j + 1) m m' (by omega) (by simpa using hi) (by simpa using hj)) (by simpa using hl) (fun m hm => ?_) i m m' (by simpa using h) (by simpa using h')
      have h1 := hk m (List.mem_cons_of_mem _ hm)
      rw [List.map_cons] at h1
      refine (List.mem_cons.1 h1).resolve_left fun e => ?_
      rw [List.map_cons, List.nodup_cons] at hn
      exact hn.1 (by rw [hab, ← e]; exact List.mem_map_of_mem hm)
theorem anM_op {ms : List Mt} {i : Nat} {a : An} (h : (anM ms)[i]? = some a) : ∃ m, ms[i]? = some m ∧ keyA a = keyM m ∧ a.name = m.name.toList ∧ a.pkg = m.pkg := by
  unfold anM at h
  rw [List.getElem?_map, Option.map_eq_some_iff] at h
  obtain ⟨m, h1, rfl⟩ := h
  exact ⟨m, h1, rfl, rfl, rfl⟩
theorem anM_of {ms : List Mt} {i : Nat} {m : Mt} (h : ms[i]? = some m) : (anM ms)[i]? = some ⟨m.name.toList, [], m.pkg, false⟩ := by unfold anM; rw [List.getElem?_map, h]; rfl
theorem anM_keys (ms : List Mt) : (anM ms).map keyA = ms.map keyM := by unfold anM; rw [List.map_map]; rfl
theorem key_uniq {ms : List Mt} (hn : (ms.map keyM).Nodup) {m m' : Mt} (h : m ∈ ms) (h' : m' ∈ ms) (hk : keyM m = keyM m') : m = m' := by
  obtain ⟨i, hi⟩ := List.getElem?_of_mem h
  obtain ⟨j, hj⟩ := List.getElem?_of_mem h'
  rw [List.nodup_iff_pairwise_ne, List.pairwise_iff_getElem] at hn
  have hlt : ∀ (i j : Nat) (m m' : Mt), i < j → ms[i]? = some m → ms[j]? = some m' → keyM m ≠ keyM m' := fun i j m m' hij h1 h2 => by
    obtain ⟨l1, e1⟩ := List.getElem?_eq_some_iff.1 h1
    obtain ⟨l2, e2⟩ := List.getElem?_eq_some_iff.1 h2
    have := hn i j (by simpa using l1) (by simpa using l2) hij
    simpa [e1, e2] using this
  have e : i = j := by
    rcases Nat.lt_trichotomy i j with h | h | h
    · exact absurd hk (hlt i j m m' h hi hj)
    · exact h
    · exact absurd hk.symm (hlt j i m' m h hj hi)
  subst e
  rw [hi] at hj
  cases hj
  rfl
/-- identity of interfaces, by their sorted methods -/
theorem idX_iface {D : List De} {tags : Bool} {ms0 ms0' ms ms' : List Mt} {es0 es0' : List X} (h0 : es0.length = ms0.length) (h0' : es0'.length = ms0'.length) (hE : ∀ (i : Nat) m x, ms0[i]? = some m → es0[i]? = some x → Exp D m.fn x) (hE' : ∀ (i : Nat) m x, ms0'[i]? = some m → es0'[i]? = some x → Exp D m.fn x)
    (hp : ms.Perm ms0) (hp' : ms'.Perm ms0') (hs : Srtd ms) (hs' : Srtd ms') :
    idX tags (.node 9 0 0 false (anM ms0) es0) (.node 9 0 0 false (anM ms0') es0') = true ↔ ms.length = ms'.length ∧ ∀ (i : Nat) m m', ms[i]? = some m → ms'[i]? = some m' → keyM m = keyM m' ∧ ∀ x y, Exp D m.fn x → Exp D m'.fn y → idX tags x y = true := by
  have hl0 : (anM ms0).length = es0.length := by unfold anM; rw [List.length_map, h0]
  have hn0' : ((anM ms0').map keyA).Nodup := by rw [anM_keys]; exact ((hp'.map keyM).nodup_iff).1 hs'.nodup
  have hlm : ms.length = ms0.length := hp.length_eq
  have hlm' : ms'.length = ms0'.length := hp'.length_eq
  rw [idX_node]
  simp only [beq_self_eq_true, if_true, Bool.true_and, Bool.and_eq_true, beq_iff_eq, idM_iff tags (anM ms0') es0' es0 (anM ms0) hl0]
  have hla : (anM ms0).length = ms0.length := by unfold anM; rw [List.length_map]
  have hla' : (anM ms0').length = ms0'.length := by unfold anM; rw [List.length_map]
  constructor
  · rintro ⟨h1, h2⟩
    have hl : ms.length = ms'.length := by omega
    have hsub : ∀ m ∈ ms, ∃ (j j' : Nat) (m2 : Mt) (x y : X), ms0[j]? = some m ∧ es0[j]? = some x ∧ ms0'[j']? = some m2 ∧ es0'[j']? = some y ∧ keyM m2 = keyM m ∧ idX tags x y = true := fun m hm => by
      obtain ⟨j, hj⟩ := List.getElem?_of_mem (hp.mem_iff.1 hm)
      have hjl := (List.getElem?_eq_some_iff.1 hj).1
      obtain ⟨y, h3, h4⟩ := h2 j _ es0[j] (anM_of hj) (List.getElem?_eq_getElem (by omega))
      obtain ⟨j', a, h5, h6, h7⟩ := findX_some _ _ _ _ _ h3
      obtain ⟨m2, h8, h9, _⟩ := anM_op h5
      exact ⟨j, j', m2, _, y, hj, List.getElem?_eq_getElem (by omega), h8, h6, by rw [← h9, h7], h4⟩
    have hk := srt_keys ms ms' hs hs' hl fun m hm => by
      obtain ⟨_, j', m2, _, _, _, _, h8, _, h9, _⟩ := hsub m hm
      rw [← h9]
      exact List.mem_map_of_mem (hp'.mem_iff.2 (List.mem_of_getElem? h8))
    refine ⟨hl, fun i m m' hi hi' => ⟨hk i m m' hi hi', fun x y hx hy => ?_⟩⟩
    obtain ⟨j, j', m2, x0, y0, q1, q2, q3, q4, q5, q6⟩ := hsub m (List.mem_of_getElem? hi)
    have e : m2 = m' := key_uniq hs'.nodup (hp'.mem_iff.2 (List.mem_of_getElem? q3)) (List.mem_of_getElem? hi') (q5.trans (hk i m m' hi hi'))
    subst e
    rw [Exp.det hx (hE j m x0 q1 q2), Exp.det hy (hE' j' m2 y0 q3 q4)]
    exact q6
  · rintro ⟨hl, h⟩
    refine ⟨by omega, fun i a x ha hx => ?_⟩
    obtain ⟨m, h1, h2, h3, h4⟩ := anM_op ha
    obtain ⟨k, hk⟩ := List.getElem?_of_mem (hp.mem_iff.2 (List.mem_of_getElem? h1))
    have hkl := (List.getElem?_eq_some_iff.1 hk).1
    have hk' : ms'[k]? = some ms'[k] := List.getElem?_eq_getElem (by omega)
    obtain ⟨q1, q2⟩ := h k m _ hk hk'
    obtain ⟨j', hj'⟩ := List.getElem?_of_mem (hp'.mem_iff.1 (List.mem_of_getElem? hk'))
    have hjl := (List.getElem?_eq_some_iff.1 hj').1
    have hy : es0'[j']? = some es0'[j'] := List.getElem?_eq_getElem (by omega)
    refine ⟨_, findX_at _ _ j' _ _ _ _ hn0' (anM_of hj') hy ?_, q2 x _ (hE i m x h1 hx) (hE' j' _ _ hj' hy)⟩
    show keyM ms'[k] = keyOf a.name a.pkg
    rw [← q1, h3, h4]
end Go.Proofs.YtpiegpegjbmlkaaGreatDoor
namespace Go.Proofs.YtpiegpegjbmlkaaGreatDoor
open Go Go.Kd
set_option maxRecDepth 100000

/-- what is there when types are compared -/
structure IC (K : Cfg) (s : Gs) (w : World) : Prop where
  ok : OkD K.D
  vd : ValidD K.D
  dc : DclI K s w K.D.length
  er : ErrI K s w
  ii : II K s w []
  prp : Prp w
  pkg : PkgOK s w
theorem PkgOK.ext {s : Gs} {w w' : World} (x : Ext w w') (h : PkgOK s w) : PkgOK s w' := fun n hn => by
  obtain ⟨c, y, h1, h2⟩ := h n hn
  exact ⟨c, y, h1, h2.ext' x⟩
theorem IC.ext {K : Cfg} {s : Gs} {w w' : World} (x : Ext w w') (h : IC K s w) : IC K s w' := ⟨h.ok, h.vd, h.dc.sta (l := 0) (.of_ext x) (by omega), h.er.sta (l := 0) (.of_ext x) (by omega), fun c u hc => by
    obtain ⟨r1, r2⟩ := h.ii c u hc
    refine ⟨r1, fun hu => ?_⟩
    obtain ⟨p1, p2, p3⟩ := r2 hu
    exact ⟨p1, p2.ext x, .inl ((p3.resolve_right fun q => (by cases q.1)).sta (l := 0) (.of_ext x) (by omega))⟩, h.prp.ext x, h.pkg.ext x⟩
theorem Blt.ic {K : Cfg} {s : Gs} {w : World} {bb : Nat} (h : Blt K s w bb) : IC K s w := ⟨⟨h.vd.sh, h.wd, by have := len_wtD K.D; have := h.wd; omega⟩, h.vd, h.dc, h.er, h.ii, h.prp, h.bi.pkg⟩
theorem rdy_of {K : Cfg} {t : Ty} (h : Good K.D t) : Rdy K K.D.length t := fun hk => by
  obtain ⟨h0, h1⟩ := h.named hk
  exact ⟨h0, by omega, by omega⟩
/-! ### Legal types -/
theorem legal_same {D : List De} {t u : Ty} (h0 : u.kind = 0) (he : u.elems = t.elems) (h : Legal D t) : Legal D u := .mk u (fun i e hi => h.el i e (by rw [← he]; exact hi)) ⟨fun k => by omega, fun k => by omega, fun k => by omega, fun k => by omega, fun k => by omega, fun k => by omega, fun k => by omega, fun k => by omega⟩
theorem legal_any (D : List De) : Legal D anyT := .mk _ (fun i e he => by simp [anyT, Ty.elems] at he) ⟨fun k => by simp [anyT, Ty.kind] at k, fun k => by simp [anyT, Ty.kind] at k, fun k => by simp [anyT, Ty.kind] at k, fun k => by simp [anyT, Ty.kind] at k, fun k => by simp [anyT, Ty.kind] at k, fun _ i e he => by simp [anyT, Ty.elems] at he, fun _ => ⟨fun i s hs => by simp [names, anyT, Ty.elems] at hs, fun i j s _ hs => by simp [names, anyT, Ty.elems] at hs⟩, fun _ => ⟨[], by
    have hif : isIf anyT := .inl rfl
    exact IM.nil hif (.inr rfl), fun i e he => by simp [anyT, Ty.elems] at he, fun i e he => by simp [anyT, Ty.elems] at he⟩⟩
theorem legal_norm {D : List De} {t : Ty} (h : Legal D t) : Legal D (norm t) := by
  rcases norm_cases t with ⟨_, h2⟩ | ⟨_, h2, h3, _⟩ | ⟨_, _, h3⟩
  · rw [h2]; exact h
  · exact legal_same h2 h3 h
  · rw [h3]; exact legal_any D
theorem legal_unalias {D : List De} (hV : ValidD D) {t : Ty} (hg : Good D t) (h : Legal D t) : Legal D (unaliasT D t) := by
  obtain ⟨i, v, hi, hs⟩ := hg.sh
  rcases unalias_cases hV.sh hi hs with ⟨_, h2⟩ | ⟨j, e, _, _, h3, _, _, h6⟩
  · rw [h2]; exact legal_norm h
  · rw [h6]; exact legal_norm (hV.lg j e h3)
theorem legal_errN {D : List De} {t : Ty} (h : Legal D t) : Legal D (errN t) := by
  unfold errN
  split
  · exact legal_errT D
  · exact h
theorem legal_under {D : List De} (hV : ValidD D) {t : Ty} (hg : Good D t) (h : Legal D t) : Legal D (underT D t) := by
  obtain ⟨i, v, hi, hs⟩ := hg.sh
  rcases under_cases hV.sh hi hs with ⟨_, _, h2⟩ | ⟨j, e, _, _, _, h3, _, h6⟩
  · rw [h2]; exact legal_errN (legal_norm h)
  · rw [h6]; exact legal_errN (legal_norm (hV.lg j e h3))
theorem mergeM_mem (c : Int) {m : Mt} : ∀ (i : Nat) (L : List (List Mt)) (out : List Mt), m ∈ mergeM c i L out → m ∈ out ∨ ∃ (j : Nat) (l : List Mt), L[j]? = some l ∧ m ∈ l
  | _, [], out, h => .inl h
  | i, l :: L, out, h => by
    unfold mergeM at h
    rcases mergeM_mem c (i + 1) L _ h with h1 | ⟨j, l', h1, h2⟩
    · split at h1
      · rcases List.mem_append.1 h1 with h1 | h1
        · exact .inl h1
        · exact .inr ⟨0, l, rfl, h1⟩
      · have key : ∀ (l out : List Mt), m ∈ l.foldl addM out → m ∈ out ∨ m ∈ l := fun l => by
          induction l with
          | nil => exact fun out h => .inl h
          | cons a r ih =>
            intro out h
            rcases ih _ h with h | h
            · rcases addM_spec out a with ⟨e, _⟩ | ⟨e, _⟩
              · rw [e] at h; exact .inl h
              · rw [e] at h
                rcases List.mem_append.1 h with h | h
                · exact .inl h
                · exact .inr (by simp at h; rw [h]; exact List.mem_cons_self ..)
            · exact .inr (List.mem_cons_of_mem _ h)
        rcases key l out h1 with h1 | h1
        · exact .inl h1
        · exact .inr ⟨0, l, rfl, h1⟩
    · exact .inr ⟨j + 1, l', by simpa using h1, h2⟩
theorem legal_IM {D : List De} (hV : ValidD D) (hD : OkD D) {t : Ty} {ms : List Mt} (h : IM D t ms) : Good D t → Legal D t → ∀ m ∈ ms, Legal D m.fn := by
  induction h with
  | no t hk => intro _ _ m hm; cases hm
  | yes t L h9 hL h1 h2 ih =>
    intro hg hl m hm
    have hu := legal_under hV hg hl
    have hgu := hg.under hD
    rcases mergeM_mem _ _ _ _ hm with hm | ⟨j, l, hj, hm⟩
    · cases hm
    · have hlt := (List.getElem?_eq_some_iff.1 hj).1
      have hel : (underT D t).elems[j]? = some (underT D t).elems[j] := List.getElem?_eq_getElem (by omega)
      by_cases hc : (j : Int) < (underT D t).count
      · have e := h1 j _ l hel hj hc
        rw [e] at hm
        simp at hm
        rw [hm]
        exact hu.el j _ hel
      · exact ih j _ l hel hj hc (hgu.el hel) (hu.el j _ hel) m hm
section
variable {K : Cfg} {s : Gs} {w : World} {p : Nat → Prop} {v : Value} {t : Ty}
/-- a literal's block -/
theorem RT.lit2 (h : RT K s w p v t) (hl : isLit t) : ∃ b, v = .iface (dynT t) (pt b) ∧ Pl w b ∧ s.g b = some t := by
  obtain ⟨l1, l2⟩ := hl
  cases h with
  | basic _ b i nb h0 h1 h2 hp h3 h4 => exact ⟨b, by unfold dynT; rw [if_pos h0, if_neg (by omega)], ⟨_, _, h3.at_⟩, h4⟩
  | error _ h0 h1 => exact absurd ⟨h0, h1⟩ l2
  | any _ b h0 h1 hp h2 h3 =>
    obtain ⟨ts, h2⟩ := h2
    exact ⟨b, by unfold dynT; rw [if_pos h0, if_pos h1], ⟨_, _, h2.at_⟩, h3⟩
  | named _ _ h0 => exact absurd h0 l1
  | ptr _ e v b h0 h1 _ hp h3 h4 => exact ⟨b, by unfold dynT; simp [h0], ⟨_, _, h3.at_⟩, h4⟩
  | slice _ e v b h0 h1 _ hp h3 h4 => exact ⟨b, by unfold dynT; simp [h0], ⟨_, _, h3.at_⟩, h4⟩
  | array _ e v b h0 h1 _ hp h3 h4 => exact ⟨b, by unfold dynT; simp [h0], ⟨_, _, h3.at_⟩, h4⟩
  | map _ k e u v b h0 h1 _ _ hp h3 h4 => exact ⟨b, by unfold dynT; simp [h0], ⟨_, _, h3.at_⟩, h4⟩
  | chan _ e v b h0 h1 _ hp h3 h4 => exact ⟨b, by unfold dynT; simp [h0], ⟨_, _, h3.at_⟩, h4⟩
  | struct _ b fa fc ta tc vb vv tg h0 _ h2 hp h3 h4 h5 h6 => exact ⟨b, by unfold dynT; simp [h0], ⟨_, _, h3.at_⟩, h6⟩
  | func _ b ps rs vb vv h0 _ h2 hp h3 h4 h5 h6 =>
    obtain ⟨rc, h3⟩ := h3
    exact ⟨b, by unfold dynT; simp [h0], ⟨_, _, h3.at_⟩, h6⟩
  | iface _ b ma mc ea ec fb me sv ev h0 _ h2 h3 _ hp h5 h6 h7 h8 =>
    obtain ⟨ts, h5⟩ := h5
    exact ⟨b, by unfold dynT; simp [h0], ⟨_, _, h5.at_⟩, h8⟩
/-- what is behind aliases -/
theorem RT.unal (ic : IC K s w) (h : RT K s w s.sl v t) (hg : Rdy K K.D.length t) : ∃ u y, RT K s w s.sl u y ∧ isAl K.D y = false ∧ unaliasT K.D t = norm y ∧ IsI u ∧ Rdy K K.D.length y := by
  cases ha : isAl K.D t with
  | false =>
    obtain ⟨T, b, hv, _⟩ := h.noAl ic.dc ic.er hg ha
    exact ⟨v, t, h, ha, unalias_end ha, ⟨T, b, hv⟩, hg⟩
  | true =>
    have hk := isAl_kind ha
    obtain ⟨h0, h1, h2⟩ := hg hk
    have hel := List.getElem?_eq_getElem h1
    have hal : (K.D[t.n.toNat]).al = true := by rw [← isAl_n hk hel]; exact ha
    obtain ⟨b, ob, T, c, v0, y, rfl, k1, k2, k3, k4, k5, k6, k7⟩ := ic.dc.al_ hel h2 hal (h.nam hk)
    exact ⟨_, y, k4, k5, by rw [unalias_step ic.ok.sh hk hel hal, ← k6, unalias_step ic.ok.sh (tN_kind _) (by rw [tN_n, Int.toNat_natCast]; exact hel) hal], ⟨T, c, rfl⟩, fun hy => by
      obtain ⟨q0, q1⟩ := k7 hy
      exact ⟨q0, by omega, by omega⟩⟩
/-- elements -/
theorem RT.kid (h : RT K s w p v t) (h2 : 2 ≤ t.kind) (h8 : t.kind ≤ 8) : ∀ (i : Nat) e, t.elems[i]? = some e → ∃ u, RT K s w p u e := by
  have one : ∀ {e : Ty} {u : Value}, t.elems = [e] → RT K s w p u e → ∀ (i : Nat) e', t.elems[i]? = some e' → ∃ u, RT K s w p u e' := fun he hu i e' hi => by
    rw [he] at hi
    match i with
    | 0 => simp at hi; subst hi; exact ⟨_, hu⟩
    | i + 1 => simp at hi
  cases h with
  | basic _ b i nb h0 => omega
  | error _ h0 => omega
  | any _ b h0 => omega
  | named _ _ h0 => omega
  | ptr _ e v b h0 h1 hr hp h3 h4 => exact one h1 hr
  | slice _ e v b h0 h1 hr hp h3 h4 => exact one h1 hr
  | array _ e v b h0 h1 hr hp h3 h4 => exact one h1 hr
  | map _ k e u v b h0 h1 hr hr' hp h3 h4 =>
    intro i e' hi
    rw [h1] at hi
    match i with
    | 0 => simp at hi; subst hi; exact ⟨_, hr⟩
    | 1 => simp at hi; subst hi; exact ⟨_, hr'⟩
    | i + 2 => simp at hi
  | chan _ e v b h0 h1 hr hp h3 h4 => exact one h1 hr
  | struct _ b fa fc ta tc vb vv tg h0 hr h2 hp h3 h4 h5 h6 => exact fun i e he => ⟨_, hr i e he⟩
  | func _ b ps rs vb vv h0 hr h2 hp h3 h4 h5 h6 => exact fun i e he => ⟨_, hr i e he⟩
  | iface _ b ma mc ea ec fb me sv ev h0 => omega
end
/-- the dynamic type that a tree stands for -/
def dynK (k : Int) : Nat := if k = 2 then 128 else if k = 3 then 107 else if k = 4 then 94 else if k = 5 then 189 else if k = 6 then 191 else if k = 7 then 75 else if k = 8 then 134 else tPI
def dynX : X → Nat
  | .leaf k n => if k = 1 ∨ n = 20 then tNP else 109
  | .node k _ _ _ _ _ => dynK k
theorem idX_dyn {tags : Bool} {x y : X} (h : idX tags x y = true) : dynX x = dynX y := by
  cases x with
  | leaf k n => rw [idX_leaf h]
  | node k n c vr an es =>
    cases y with
    | leaf => simp [idX] at h
    | node k' n' c' vr' an' es' =>
      rw [idX_node, Bool.and_eq_true, beq_iff_eq] at h
      unfold dynX
      rw [h.1]
/-- the root of a type that is no alias -/
inductive Root (D : List De) (y : Ty) : X → Prop
  | basic (n : Int) : y.kind = 0 → y.n ≠ 20 → y.n ≠ 21 → n = (if y.n = 18 then 7 else if y.n = 19 then 4 else y.n) → Root D y (.leaf 0 n)
  | error : y.kind = 0 → y.n = 20 → Root D y (.leaf 0 20)
  | named : y.kind = 1 → Root D y (.leaf 1 y.n)
  | plain (es : List X) : 2 ≤ y.kind → y.kind ≤ 8 → es.length = y.elems.length → (∀ (i : Nat) e x, y.elems[i]? = some e → es[i]? = some x → Exp D e x) → Root D y (.node y.kind (nN y) (cN y) (vN y) (anN y) es)
  | iface (ms : List Mt) (es : List X) : isIf y → IM D y ms → es.length = ms.length → (∀ (i : Nat) m x, ms[i]? = some m → es[i]? = some x → Exp D m.fn x) → Root D y (.node 9 0 0 false (anM ms) es)
theorem IM.under {D : List De} {t u : Ty} (h : underT D t = underT D u) {ms : List Mt} (hm : IM D t ms) : IM D u ms := by
  cases hm with
  | no _ hk => exact .no u (by rw [← h]; exact hk)
  | yes _ L h9 hL h1 h2 => rw [h] at h9 hL h1 h2 ⊢; exact .yes u L h9 hL h1 h2
theorem exp_root {D : List De} {t y : Ty} {x : X} (hu : unaliasT D t = norm y) (h : Exp D t x) : Root D y x := by
  cases h with
  | leaf _ hk =>
    rw [hu] at hk ⊢
    rcases norm_cases y with ⟨h1, h2⟩ | ⟨h1, h2, h3, h4, h5⟩ | ⟨h1, h2, h3⟩
    · rw [h2] at hk ⊢
      have hk1 := hk.resolve_left h1
      rw [hk1]
      exact .named hk1
    · rw [h2, h4]
      by_cases h20 : y.n = 20
      · rw [h20]; exact .error h1 h20
      · exact .basic _ h1 h20 h5 rfl
    · rw [h3] at hk
      rcases hk with hk | hk <;> cases hk
  | plain _ es h2 h8 hl he =>
    rw [hu] at h2 h8 hl he ⊢
    rcases norm_cases y with ⟨h1, h3⟩ | ⟨h1, h3, _⟩ | ⟨h1, h2', h3⟩
    · rw [h3] at h2 h8 hl he ⊢; exact .plain es h2 h8 hl he
    · omega
    · rw [h3] at h8; exact absurd h8 (by decide)
  | iface _ ms es h9 hi hl he =>
    rw [hu] at h9 hi
    have hif := (isIf_norm y).2 h9
    exact .iface ms es hif (hi.under (by
      rw [hif.under]
      have h1 : (norm y).kind ≠ 1 := by omega
      have h2 : ¬ ((norm y).kind = 0 ∧ (norm y).n = 20) := by omega
      rw [under_lit h1 h2, norm_named (by omega)])) hl he
theorem Root.det {D : List De} {y : Ty} {x z : X} (h : Root D y x) (k : Root D y z) : x = z := by
  cases h with
  | basic n h0 h1 h2 h3 =>
    cases k with
    | basic n' _ _ _ k3 => rw [h3, k3]
    | error _ k1 => exact absurd k1 h1
    | named k0 => omega
    | plain es k2 => omega
    | iface ms es k1 =>
      rcases k1 with k | ⟨_, k⟩
      · omega
      · exact absurd k h2
  | error h0 h1 =>
    cases k with
    | basic n' _ k1 => exact absurd h1 k1
    | error => rfl
    | named k0 => omega
    | plain es k2 => omega
    | iface ms es k1 =>
      rcases k1 with k | ⟨_, k⟩
      · omega
      · omega
  | named h0 =>
    cases k with
    | basic n' k0 => omega
    | error k0 => omega
    | named => rfl
    | plain es k2 => omega
    | iface ms es k1 =>
      rcases k1 with k | ⟨k, _⟩ <;> omega
  | plain es h2 h8 hl he =>
    cases k with
    | basic n' k0 => omega
    | error k0 => omega
    | named k0 => omega
    | plain es' _ _ kl ke =>
      have : es = es' := lists_eq es es' (by omega) fun i a b ha hb => by
        have hlt := (List.getElem?_eq_some_iff.1 ha).1
        have hel : y.elems[i]? = some y.elems[i] := List.getElem?_eq_getElem (by omega)
        exact Exp.det (he i _ a hel ha) (ke i _ b hel hb)
      rw [this]
    | iface ms es k1 =>
      rcases k1 with k | ⟨k, _⟩ <;> omega
  | iface ms es hi hm hl he =>
    cases k with
    | basic n' k0 _ k1 =>
      rcases hi with k | ⟨_, k⟩
      · omega
      · exact absurd k k1
    | error k0 k1 =>
      rcases hi with k | ⟨_, k⟩ <;> omega
    | named k0 =>
      rcases hi with k | ⟨k, _⟩ <;> omega
    | plain es' k2 k8 =>
      rcases hi with k | ⟨k, _⟩ <;> omega
    | iface ms' es' _ km kl ke =>
      obtain rfl := IM.det hm km
      have : es = es' := lists_eq es es' (by omega) fun i a b ha hb => by
        have hlt := (List.getElem?_eq_some_iff.1 ha).1
        have hel : ms[i]? = some ms[i] := List.getElem?_eq_getElem (by omega)
        exact Exp.det (he i _ a hel ha) (ke i _ b hel hb)
      rw [this]
end Go.Proofs.YtpiegpegjbmlkaaGreatDoor
namespace Go.Proofs.YtpiegpegjbmlkaaGreatDoor
open Go Go.Kd

structure Eqv (t u : Ty) : Prop where
  kd : t.kind = u.kind
  n : t.n = u.n
  c : t.count = u.count
  v : t.vr = u.vr
  el : t.elems = u.elems
theorem Eqv.rfl' (t : Ty) : Eqv t t := ⟨rfl, rfl, rfl, rfl, rfl⟩
theorem Eqv.symm {t u : Ty} (h : Eqv t u) : Eqv u t := ⟨h.kd.symm, h.n.symm, h.c.symm, h.v.symm, h.el.symm⟩
/-- a type as an element -/
def elT (t : Ty) : Ty := .mk t.kind t.n t.count t.vr t.elems eB eB false
theorem Eqv.elT (t : Ty) : Eqv t (elT t) := ⟨rfl, rfl, rfl, rfl, rfl⟩
theorem wt_elT (t : Ty) : wt (elT t) ≤ wt t := by rw [wt_eq t, wt_eq]; show 1 + (0 + 0) + _ ≤ _; simp only [_root_.Go.Proofs.YtpiegpegjbmlkaaGreatDoor.elT, Ty.elems]; omega
theorem Eqv.decl {D : List De} {t u : Ty} (h : Eqv t u) : decl D t = decl D u := by unfold Go.Proofs.YtpiegpegjbmlkaaGreatDoor.decl; rw [h.kd, h.n]
theorem Eqv.isAl {D : List De} {t u : Ty} (h : Eqv t u) : isAl D t = isAl D u := by unfold Go.Proofs.YtpiegpegjbmlkaaGreatDoor.isAl; rw [h.decl]
theorem Eqv.unal1 {D : List De} {t u : Ty} (h : Eqv t u) : Eqv (unal1 D t) (unal1 D u) := by
  unfold Go.Proofs.YtpiegpegjbmlkaaGreatDoor.unal1
  rw [h.decl]
  split
  · split
    · exact .rfl' _
    · exact h
  · exact h
theorem Eqv.rep {f : Ty → Ty} (hf : ∀ {t u : Ty}, Eqv t u → Eqv (f t) (f u)) {t u : Ty} (h : Eqv t u) : ∀ k, Eqv (rep f k t) (rep f k u)
  | 0 => h
  | k + 1 => hf (Eqv.rep hf h k)
theorem Eqv.norm {t u : Ty} (h : Eqv t u) : Eqv (norm t) (norm u) := by
  unfold Go.Proofs.YtpiegpegjbmlkaaGreatDoor.norm
  rw [h.kd, h.n]
  obtain ⟨k, n, c, v, l, s, g, e⟩ := t
  obtain ⟨k', n', c', v', l', s', g', e'⟩ := u
  obtain ⟨h1, h2, h3, h4, h5⟩ := h
  simp only [Ty.kind, Ty.n, Ty.count, Ty.vr, Ty.elems] at h1 h2 h3 h4 h5
  subst h1 h2 h3 h4 h5
  repeat' split
  all_goals exact ⟨rfl, rfl, rfl, rfl, rfl⟩
theorem Eqv.unalias {D : List De} {t u : Ty} (h : Eqv t u) : Eqv (unaliasT D t) (unaliasT D u) := (Eqv.rep Eqv.unal1 h _).norm
theorem Eqv.und1 {D : List De} {t u : Ty} (h : Eqv t u) : Eqv (und1 D t) (und1 D u) := by
  unfold Go.Proofs.YtpiegpegjbmlkaaGreatDoor.und1
  rw [h.decl]
  split
  · exact .rfl' _
  · exact h
theorem Eqv.errN {t u : Ty} (h : Eqv t u) : Eqv (errN t) (errN u) := by
  unfold Go.Proofs.YtpiegpegjbmlkaaGreatDoor.errN
  rw [h.kd, h.n]
  split
  · exact .rfl' _
  · exact h
theorem Eqv.under {D : List De} {t u : Ty} (h : Eqv t u) : Eqv (underT D t) (underT D u) := (Eqv.rep Eqv.und1 h.unalias _).errN
theorem Eqv.im {D : List De} {t u : Ty} (h : Eqv t u) {ms : List Mt} (hm : IM D t ms) : IM D u ms := by
  have hu := h.under (D := D)
  cases hm with
  | no _ hk => exact .no u (by rw [← hu.kd]; exact hk)
  | yes _ L h9 hl h1 h2 =>
    rw [hu.c]
    rw [hu.kd] at h9
    rw [hu.el] at hl
    rw [hu.c, hu.el, hu.n] at h1
    rw [hu.c, hu.el] at h2
    exact .yes u L h9 hl h1 h2
theorem Eqv.exp {D : List De} {t u : Ty} (h : Eqv t u) {x : X} (hx : Exp D t x) : Exp D u x := by
  have ha := h.unalias (D := D)
  cases hx with
  | leaf _ hk =>
    rw [ha.kd] at hk
    rw [ha.kd, ha.n]
    exact .leaf u hk
  | plain _ es h2 h8 hl he =>
    rw [ha.kd] at h2 h8
    rw [ha.el] at hl he
    have := Exp.plain u es h2 h8 hl he
    unfold nN cN vN anN at this ⊢
    rw [ha.kd, ha.n, ha.c, ha.v, ha.el]
    exact this
  | iface _ ms es h9 hm hl he => exact .iface u ms es (by rw [← ha.kd]; exact h9) (ha.im hm) hl he
theorem Eqv.shaped {D : List De} {i : Nat} {v : Bool} {t u : Ty} (h : Eqv t u) (hs : Shaped D i v t) : Shaped D i v u := by
  have s := hs.shape
  refine .mk v u ⟨by rw [← h.kd]; exact s.lo, by rw [← h.kd]; exact s.hi, by rw [← h.kd, ← h.el]; exact s.len, by rw [← h.kd, ← h.n]; exact s.n0, by rw [← h.kd, ← h.n]; exact s.n1, by rw [← h.kd, ← h.n, ← h.isAl]; exact s.nm, by rw [← h.kd, ← h.c]; exact s.c0, by rw [← h.kd, ← h.c, ← h.el]; exact s.c1,
    by rw [← h.kd, ← h.v, ← h.c, ← h.el]; exact s.vr, by rw [← h.kd, ← h.c, ← h.el]; exact s.mth⟩ fun j e he => ?_
  rw [← h.el] at he
  have := hs.el j e he
  unfold holdsT at this ⊢
  rw [← h.kd, ← h.c]
  exact this
theorem Eqv.cons {D : List De} {t u : Ty} (h : Eqv t u) {all : List Mt} (c : Cons D t all) : Cons D u all := by
  obtain ⟨h1, h2, h3⟩ := c
  rw [h.el, h.c] at h2 h3
  exact ⟨h.im h1, h2, h3⟩
theorem Eqv.legal {D : List De} {t u : Ty} (h : Eqv t u) (hl : Legal D t) : Legal D u := by
  refine .mk u (fun i e he => hl.el i e (by rw [h.el]; exact he)) ?_
  obtain ⟨h1, h2, h3, h4, h5, h6, h7, h8⟩ := hl.here
  rw [h.kd] at h1 h2 h3 h4 h5 h6 h7 h8
  rw [h.el] at h1 h2 h3 h4 h5 h6 h7
  rw [h.c] at h4 h5 h6 h7
  exact ⟨h1, h2, h3, h4, h5, h6, h7, fun k => by obtain ⟨all, ha⟩ := h8 k; exact ⟨all, h.cons ha⟩⟩
theorem Eqv.cmp {D : List De} {t u : Ty} (h : Eqv t u) {b : Bool} (hc : Cmp D t b) : Cmp D u b := by
  have hu := h.under (D := D)
  cases hc with
  | no _ hk => exact .no u (by rw [← hu.kd]; exact hk)
  | yes _ hk => exact .yes u (by rw [← hu.kd]; exact hk)
  | all _ bs hk hl he =>
    rw [hu.kd] at hk
    rw [hu.el] at hl he
    exact .all u bs hk hl he
theorem Eqv.valid {D : List De} {t u : Ty} (h : Eqv t u) (hv : ValidT D t) : ValidT D u := ⟨h.shaped hv.sh, h.legal hv.lg⟩

theorem Shaped.any {D : List De} {v : Bool} {t : Ty} (h : Shaped D D.length v t) : ∀ v', Shaped D D.length v' t := by
  generalize hi : D.length = i at h
  induction h with
  | mk v t s _ ih =>
    intro v'
    refine .mk v' t ⟨s.lo, s.hi, s.len, s.n0, s.n1, fun hk _ => ?_, s.c0, s.c1, s.vr, s.mth⟩ fun j e he => ih j e he _
    have := s.n1 (by rw [hk]; simp [limitN])
    rw [hk] at this
    simp [limitN] at this
    omega
theorem ValidT.el {D : List De} {t : Ty} (h : ValidT D t) {i : Nat} {e : Ty} (he : t.elems[i]? = some e) : ValidT D e := ⟨(h.sh.el i e he).any _, h.lg.el i e he⟩

/-- a type of this kind, of these elements -/
def ndT (k n : Int) (l : List Ty) : Ty := .mk k n 0 false l eB eB false
theorem wt_nd (k n : Int) (l : List Ty) : wt (ndT k n l) = 1 + wts l := by rw [wt_eq]; simp only [ndT, Ty.elems, Ty.name, Ty.tag]; rfl
theorem unal_lit {D : List De} {t : Ty} (h0 : t.kind ≠ 0) (h1 : t.kind ≠ 1) : unaliasT D t = t := by
  have ha : Go.Proofs.YtpiegpegjbmlkaaGreatDoor.isAl D t = false := by unfold Go.Proofs.YtpiegpegjbmlkaaGreatDoor.isAl; rw [decl_none h1]
  rw [unalias_lit ha, norm_named h0]
theorem valid_map {D : List De} {k t : Ty} (hk : ValidT D k) (hc : Cmp D k true) (h : ValidT D t) : ValidT D (ndT 5 0 [elT k, elT t]) := by
  have he : ∀ (j : Nat) e, (ndT 5 0 [elT k, elT t]).elems[j]? = some e → e = elT k ∨ e = elT t := fun j e he => by
    have he : [elT k, elT t][j]? = some e := he
    match j with
    | 0 => exact .inl (by simpa using he.symm)
    | 1 => exact .inr (by simpa using he.symm)
    | j + 2 => simp at he
  have hke : (ndT 5 0 [elT k, elT t]).kind = 5 := rfl
  refine ⟨.mk _ _ ⟨by omega, by omega, fun _ => rfl, fun hl => ?_, fun hl => ?_, fun _ => by omega, fun _ => by omega, fun _ => by omega, fun _ => by omega, fun _ => by omega⟩ fun j e hj => ?_, .mk _ (fun j e hj => ?_) ⟨fun _ e h0 => ?_, fun _ => by omega, fun _ => by omega, fun _ => by omega, fun _ => by omega, fun _ => by omega, fun _ => by omega, fun _ => by omega⟩⟩
  · rw [hke] at hl; simp [limitN] at hl
  · rw [hke] at hl; simp [limitN] at hl
  · rcases he j e hj with rfl | rfl
    · exact ((Eqv.elT k).shaped hk.sh).any _
    · exact ((Eqv.elT t).shaped h.sh).any _
  · rcases he j e hj with rfl | rfl
    · exact (Eqv.elT k).legal hk.lg
    · exact (Eqv.elT t).legal h.lg
  · have h0 : [elT k, elT t][0]? = some e := h0
    obtain rfl : elT k = e := by simpa using h0
    exact (Eqv.elT k).cmp hc
def nd2 (x y : X) : X := .node 5 0 0 false [] [x, y]
theorem exp_map {D : List De} {k t : Ty} {x y : X} (hk : Exp D k x) (h : Exp D t y) : Exp D (ndT 5 0 [elT k, elT t]) (nd2 x y) := by
  have hu : unaliasT D (ndT 5 0 [elT k, elT t]) = ndT 5 0 [elT k, elT t] := unal_lit (show (5 : Int) ≠ 0 by decide) (show (5 : Int) ≠ 1 by decide)
  have := Exp.plain (D := D) (ndT 5 0 [elT k, elT t]) [x, y] (by rw [hu]; show (2 : Int) ≤ 5; decide) (by rw [hu]; show (5 : Int) ≤ 8; decide) (by rw [hu]; rfl) fun i e z he hz => by
    rw [hu] at he
    have he : [elT k, elT t][i]? = some e := he
    match i with
    | 0 =>
      obtain rfl : elT k = e := by simpa using he
      obtain rfl : x = z := by simpa using hz
      exact (Eqv.elT k).exp hk
    | 1 =>
      obtain rfl : elT t = e := by simpa using he
      obtain rfl : y = z := by simpa using hz
      exact (Eqv.elT t).exp h
    | i + 2 => simp at he
  rw [hu] at this
  exact this
theorem wf_nd2 {x y : X} (h : WfX x) (h' : WfX y) : WfX (nd2 x y) := .node _ _ _ _ _ _ (fun h => absurd h (by decide)) fun e he => by simp at he; rcases he with rfl | rfl <;> assumption
end Go.Proofs.YtpiegpegjbmlkaaGreatDoor
namespace Go.Proofs.YtpiegpegjbmlkaaGreatDoor
open Go Go.Kd

theorem Shaped.up {D : List De} {i j : Nat} (hij : i ≤ j) {v : Bool} {t : Ty} (h : Shaped D i v t) : Shaped D j v t := by
  induction h with
  | mk v t s _ ih => exact .mk v t ⟨s.lo, s.hi, s.len, s.n0, s.n1, fun hk hv => by have := s.nm hk hv; omega, s.c0, s.c1, s.vr, s.mth⟩ fun j e he => ih j e he
theorem Good.valid {D : List De} {t : Ty} (h : Good D t) (hl : Legal D t) : ValidT D t := by
  obtain ⟨i, v, hi, hs⟩ := h.sh
  exact ⟨(hs.up hi).any _, hl⟩
theorem ValidT.good {D : List De} {t : Ty} (h : ValidT D t) (hw : wt t ≤ 16777216) : Good D t := ⟨⟨_, _, Nat.le_refl _, h.sh⟩, hw⟩

/-- a function type with these parameters and results -/
def fnT (ins outs : List Ty) (vr : Bool) : Ty := .mk 8 0 ins.length vr ((ins ++ outs).map elT) eB eB false
def fnX (c : Nat) (vr : Bool) (xs : List X) : X := .node 8 0 c vr [] xs
theorem wts_elT : ∀ l : List Ty, wts (l.map elT) ≤ wts l
  | [] => Nat.le_refl _
  | t :: r => by have := wts_elT r; have := wt_elT t; simp only [List.map_cons, wts]; omega
theorem wts_app : ∀ l k : List Ty, wts (l ++ k) = wts l + wts k
  | [], k => by simp [wts]
  | t :: r, k => by simp only [List.cons_append, wts, wts_app r k]; omega
theorem wt_fn (ins outs : List Ty) (vr : Bool) : wt (fnT ins outs vr) ≤ 1 + (wts ins + wts outs) := by
  rw [wt_eq]
  have := wts_elT (ins ++ outs)
  rw [wts_app] at this
  show 1 + (0 + 0) + wts ((ins ++ outs).map elT) ≤ _
  omega
theorem exp_fn {D : List De} {ins outs : List Ty} {vr : Bool} {xs : List X} (hl : xs.length = (ins ++ outs).length) (h : ∀ (i : Nat) e x, (ins ++ outs)[i]? = some e → xs[i]? = some x → Exp D e x) : Exp D (fnT ins outs vr) (fnX ins.length vr xs) := by
  have hu : unaliasT D (fnT ins outs vr) = fnT ins outs vr := unal_lit (show (8 : Int) ≠ 0 by decide) (show (8 : Int) ≠ 1 by decide)
  have := Exp.plain (D := D) (fnT ins outs vr) xs (by rw [hu]; show (2 : Int) ≤ 8; decide) (by rw [hu]; show (8 : Int) ≤ 8; decide) (by rw [hu, hl]; show _ = ((ins ++ outs).map elT).length; rw [List.length_map]) fun i e x he hx => by
    rw [hu] at he
    have he : ((ins ++ outs).map elT)[i]? = some e := he
    rw [List.getElem?_map] at he
    cases hq : (ins ++ outs)[i]? with
    | none => rw [hq] at he; cases he
    | some t =>
      rw [hq] at he
      obtain rfl : elT t = e := by simpa using he
      exact (Eqv.elT t).exp (h i t x hq hx)
  rw [hu] at this
  exact this
theorem valid_fn {D : List De} {ins outs : List Ty} {vr : Bool} (h : ValidT D (fnT ins outs vr)) : ∀ t ∈ ins ++ outs, ValidT D t := fun t ht => by
  obtain ⟨i, hi⟩ := List.getElem?_of_mem ht
  have : (fnT ins outs vr).elems[i]? = some (elT t) := by show ((ins ++ outs).map elT)[i]? = _; rw [List.getElem?_map, hi]; rfl
  exact (Eqv.elT t).symm.valid (h.el this)
end Go.Proofs.YtpiegpegjbmlkaaGreatDoor
namespace Go.Proofs.YtpiegpegjbmlkaaGreatDoor
open Go Go.Kd

theorem mergeE_nodup : ∀ {L : List (List Mt)} {out : List Mt}, (out.map keyM).Nodup → (∀ l ∈ L, (l.map keyM).Nodup) → ((mergeE L out).map keyM).Nodup
  | [], _, h, _ => h
  | l :: L, out, h, hL => by
    show ((mergeE L (l.foldl addM out)).map keyM).Nodup
    refine mergeE_nodup ?_ fun k hk => hL k (List.mem_cons_of_mem _ hk)
    have hl := hL l (List.mem_cons_self ..)
    rw [addM_fold hl, List.map_append, List.nodup_append]
    refine ⟨h, (List.filter_sublist.map _).nodup hl, fun a ha b hb => ?_⟩
    obtain ⟨m, hm, rfl⟩ := List.mem_map.1 hb
    have := (List.mem_filter.1 hm).2
    simp only [decide_eq_true_eq] at this
    exact fun e => this (e ▸ ha)
/-- how the methods of an interface came about -/
theorem IM.inv {D : List De} {t u : Ty} {c : Nat} {ms : List Mt} (hu : underT D t = u) (h9 : u.kind = 9) (hc : u.count = c) (hcl : c ≤ u.elems.length) (h : IM D t ms) :
    ∃ L, L.length = u.elems.length - c ∧ (∀ (j : Nat) e l, u.elems[c + j]? = some e → L[j]? = some l → IM D e l) ∧ ms = mergeE L (ownM u c) := by
  subst hu
  cases h with
  | no _ k => exact absurd h9 k
  | yes _ L _ hl h1 h2 =>
    have hlen : (L.take c).length = c := by rw [List.length_take]; omega
    have hown : L.take c = ((underT D t).elems.take c).map (fun e => [(⟨e.name, (underT D t).n, e⟩ : Mt)]) := by
      refine lists_eq _ _ (by simp; omega) fun i a b ha hb => ?_
      have hi : i < c := by rw [← hlen]; exact (List.getElem?_eq_some_iff.1 ha).1
      rw [List.getElem?_take_of_lt hi] at ha
      rw [List.getElem?_map, List.getElem?_take_of_lt hi] at hb
      cases he : (underT D t).elems[i]? with
      | none => rw [he] at hb; cases hb
      | some e =>
        rw [he] at hb
        rw [h1 i e a he ha (by omega)]
        exact Option.some.inj hb
    refine ⟨L.drop c, by simp; omega, fun j e l he hj => ?_, ?_⟩
    · rw [List.getElem?_drop] at hj
      exact h2 (c + j) e l he hj (by omega)
    · conv => lhs; rw [← List.take_append_drop c L]
      rw [mergeM_lo _ _ _ 0 [] (by rw [hlen, hc]; simp), mergeM_hi _ _ _ _ (by rw [hlen, hc]; simp), List.nil_append, hown, flatten_single (fun e => (⟨e.name, (underT D t).n, e⟩ : Mt))]
      rfl
/-- an interface's methods have names of their own -/
theorem IM_nodup {D : List De} (hD : OkD D) (hV : ValidD D) {t : Ty} {ms : List Mt} (h : IM D t ms) : Good D t → Legal D t → (ms.map keyM).Nodup := by
  induction h with
  | no => intros; simp
  | yes t L h9 hl h1 h2 ih =>
    intro hG hL
    have hGu := hG.under hD
    have hLu := legal_under hV hG hL
    obtain ⟨i, v, _, hs⟩ := hGu.sh
    have c0 := hs.shape.c0 (.inr h9)
    have c1 := hs.shape.c1 (.inr h9)
    obtain ⟨c, hc⟩ : ∃ c : Nat, (underT D t).count = c := ⟨(underT D t).count.toNat, by omega⟩
    obtain ⟨L', l1, l2, e⟩ := IM.inv rfl h9 hc (by omega) (.yes t L h9 hl h1 h2)
    rw [e]
    refine mergeE_nodup (own_nodup (by have := hLu.here.unq h9; rwa [hc, Int.toNat_natCast] at this) fun i e he hi => hLu.here.mth h9 i e he (by omega)) fun l hl' => ?_
    obtain ⟨j, hj⟩ := List.getElem?_of_mem hl'
    have hlt := (List.getElem?_eq_some_iff.1 hj).1
    have hel : (underT D t).elems[c + j]? = some (underT D t).elems[c + j] := List.getElem?_eq_getElem (by omega)
    have hL0 : L[c + j]? = some L[c + j] := List.getElem?_eq_getElem (by omega)
    have := IM.det (l2 j _ l hel hj) (h2 (c + j) _ _ hel hL0 (by omega))
    rw [this]
    exact ih (c + j) _ _ hel hL0 (by omega) (hGu.el hel) (hLu.el _ _ hel)
theorem IM_legal {D : List De} (hD : OkD D) (hV : ValidD D) {t : Ty} {ms : List Mt} (h : IM D t ms) (hG : Good D t) (hL : Legal D t) : ∀ m ∈ ms, Legal D m.fn := legal_IM hV hD h hG hL
theorem anM_keyA (ms : List Mt) : (anM ms).map keyA = ms.map keyM := by unfold anM; rw [List.map_map]; rfl
/-- a legal type's tree is well-formed -/
theorem exp_wf {D : List De} (hD : OkD D) (hV : ValidD D) {t : Ty} {x : X} (h : Exp D t x) : Good D t → Legal D t → WfX x := by
  induction h with
  | leaf t hk => exact fun _ _ => .leaf _ _
  | plain t es h2 h8 hl _ ih =>
    intro hG hL
    refine .node _ _ _ _ _ _ (fun h => by omega) fun e he => ?_
    obtain ⟨i, hi⟩ := List.getElem?_of_mem he
    have hlt := (List.getElem?_eq_some_iff.1 hi).1
    have hel : (unaliasT D t).elems[i]? = some (unaliasT D t).elems[i] := List.getElem?_eq_getElem (by omega)
    exact ih i _ e hel hi ((hG.unalias hD).el hel) ((legal_unalias hV hG hL).el _ _ hel)
  | iface t ms es h9 hm hl _ ih =>
    intro hG hL
    have hG' := hG.unalias hD
    have hL' := legal_unalias hV hG hL
    refine .node _ _ _ _ _ _ (fun _ => ⟨by unfold anM; rw [List.length_map, hl], by rw [anM_keyA]; exact IM_nodup hD hV hm hG' hL'⟩) fun e he => ?_
    obtain ⟨i, hi⟩ := List.getElem?_of_mem he
    have hlt := (List.getElem?_eq_some_iff.1 hi).1
    have hel : ms[i]? = some ms[i] := List.getElem?_eq_getElem (by omega)
    exact ih i _ e hel hi (IM_good hD hm hG' _ (List.mem_of_getElem? hel)) (IM_legal hD hV hm hG' hL' _ (List.mem_of_getElem? hel))

end Go.Proofs.YtpiegpegjbmlkaaGreatDoor
namespace Go.Proofs.YtpiegpegjbmlkaaGreatDoor
open Go Go.Kd
set_option maxRecDepth 100000

theorem isIf.under_norm {D : List De} {y : Ty} (hif : isIf y) : underT D y = underT D (norm y) := by
  have h9 := hif.norm9
  rw [hif.under]
  have h1 : (norm y).kind ≠ 1 := by omega
  have h2 : ¬ ((norm y).kind = 0 ∧ (norm y).n = 20) := by omega
  rw [under_lit h1 h2, norm_named (t := norm y) (by omega)]
/-- what is known of the block of a type that is no alias -/
def gk (y : Ty) : Ty := if y.kind = 1 then tN y.n.toNat else if y.kind = 0 ∧ y.n = 20 then errB else y
section
variable {K : Cfg} {s : Gs} {w : World}
theorem RT.rootv (ic : IC K s w) {v : Value} {y : Ty} {x : X} (h : RT K s w s.sl v y) (ha : isAl K.D y = false) (hr : Rdy K K.D.length y) (hx : Root K.D y x) : ∃ b, v = .iface (dynX x) (pt b) ∧ Pl w b ∧ s.g b = some (gk y) := by
  have lit : isLit y → dynX x = dynT y → ∃ b, v = .iface (dynX x) (pt b) ∧ Pl w b ∧ s.g b = some (gk y) := fun hl hd => by
    obtain ⟨b, h1, h2, h3⟩ := h.lit2 hl
    exact ⟨b, by rw [hd]; exact h1, h2, by unfold gk; rw [if_neg hl.1, if_neg hl.2]; exact h3⟩
  cases hx with
  | basic n h0 h1 h2 h3 =>
    refine lit ⟨by omega, fun q => h1 q.2⟩ ?_
    have h20 : n ≠ 20 := by
      rw [h3]
      split
      · omega
      split <;> omega
    show (if (0 : Int) = 1 ∨ n = 20 then tNP else _) = dynT y
    unfold dynT
    rw [if_pos h0, if_neg h2, if_neg (by omega)]
  | error h0 h1 =>
    obtain ⟨b, ob, u, ms, nm, q1, q2, q3, q4, q5⟩ := ic.er
    have hv := h.err h0 h1
    rw [q1] at hv
    refine ⟨b, by rw [hv]; rfl, ⟨_, _, q4.at_⟩, ?_⟩
    unfold gk
    rw [if_neg (by omega), if_pos ⟨h0, h1⟩]; exact q2
  | named hk =>
    obtain ⟨h0, h1, h2⟩ := hr hk
    have hel := List.getElem?_eq_getElem h1
    obtain ⟨b, ob, T, ub, ms, z, rfl, k1, k2, k3, _⟩ := ic.dc.def_ hel h2 (by rw [← isAl_n hk hel]; exact ha) (h.nam hk)
    exact ⟨b, rfl, ⟨_, _, k3.at_⟩, by unfold gk; rw [if_pos hk]; exact k1⟩
  | plain es h2 h8 =>
    refine lit ⟨by omega, fun q => by omega⟩ ?_
    unfold dynX dynK dynT
    rw [if_neg (show ¬ y.kind = 0 by omega)]
  | iface ms es hi =>
    refine lit hi.lit ?_
    rw [hi.dyn]; rfl
theorem gk_root {D : List De} {y y' : Ty} {x x' : X} (hx : Root D y x) (hx' : Root D y' x') (h : gk y = gk y') (h0 : y.kind = 1 → 0 ≤ y.n) (h0' : y'.kind = 1 → 0 ≤ y'.n) : x = x' := by
  have key : ∀ {y : Ty} {x : X}, Root D y x → (y.kind = 1 → 0 ≤ y.n) → Root D (gk y) x := fun {y x} hx h0 => by
    unfold gk
    by_cases h1 : y.kind = 1
    · rw [if_pos h1]
      cases hx with
      | basic _ k => omega
      | error k => omega
      | named =>
        have : Root D (tN y.n.toNat) (.leaf 1 (tN y.n.toNat).n) := .named (tN_kind _)
        rw [tN_n, Int.toNat_of_nonneg (h0 h1)] at this
        exact this
      | plain _ k => omega
      | iface _ _ k => rcases k with k | ⟨k, _⟩ <;> omega
    · rw [if_neg h1]
      by_cases h2 : y.kind = 0 ∧ y.n = 20
      · rw [if_pos h2]
        cases hx with
        | basic _ _ k => exact absurd h2.2 k
        | error => exact .error rfl rfl
        | named k => omega
        | plain _ k => omega
        | iface _ _ k => rcases k with k | ⟨_, k⟩ <;> omega
      · rw [if_neg h2]; exact hx
  have a := key hx h0
  have b := key hx' h0'
  rw [h] at a
  exact a.det b
/-- the type set of an interface -/
theorem IC.ts (ic : IC K s w) {b : Nat} {y : Ty} (hg : s.g b = some y) (hi : isIf y) : ∃ tb ms fb, TSo K s w all' b tb y ms fb := by
  obtain ⟨_, r2⟩ := ic.ii b y hg
  obtain ⟨_, _, r3⟩ := r2 hi
  exact r3.resolve_right fun q => (by cases q.1)
/-- methods of interfaces: their trees -/
theorem iface_trees {D : List De} {ms : List Mt} {es : List X} (hl : es.length = ms.length) (he : ∀ (i : Nat) m x, ms[i]? = some m → es[i]? = some x → Exp D m.fn x) {m : Mt} (hm : m ∈ ms) : ∃ (i : Nat) (x : X), es[i]? = some x ∧ Exp D m.fn x := by
  obtain ⟨i, hi⟩ := List.getElem?_of_mem hm
  have hlt := (List.getElem?_eq_some_iff.1 hi).1
  have hx : es[i]? = some es[i] := List.getElem?_eq_getElem (by omega)
  exact ⟨i, _, hx, he i m _ hi hx⟩
theorem RT.wfx (ic : IC K s w) : ∀ (x : X) (v : Value) (t : Ty), RT K s w s.sl v t → Rdy K K.D.length t → Good K.D (unaliasT K.D t) → Exp K.D t x → WfX x := by
  refine X.ind (fun k n _ _ _ _ _ _ => .leaf k n) fun k n c vr an es ih v t h hd hg hx => ?_
  obtain ⟨u, y, h1, h2, h3, h4, h5⟩ := h.unal ic hd
  have hgy : Good K.D (norm y) := by rw [← h3]; exact hg
  have hr := exp_root h3 hx
  generalize hz : X.node k n c vr an es = z at hr
  cases hr with
  | basic => cases hz
  | error => cases hz
  | named => cases hz
  | plain es' k2 k8 kl ke =>
    cases hz
    rw [norm_named (by omega)] at hgy
    refine .node _ _ _ _ _ _ (fun h => by omega) fun e he => ?_
    obtain ⟨i, hi⟩ := List.getElem?_of_mem he
    have hlt := (List.getElem?_eq_some_iff.1 hi).1
    have hel : y.elems[i]? = some y.elems[i] := List.getElem?_eq_getElem (by omega)
    obtain ⟨u', hu'⟩ := h1.kid k2 k8 i _ hel
    exact ih e he u' _ hu' (rdy_of (hgy.el hel)) ((hgy.el hel).unalias ic.ok) (ke i _ e hel hi)
  | iface ms es' hif hm kl ke =>
    cases hz
    obtain ⟨b, _, _, hgb⟩ := h1.rootv ic h2 h5 (.iface ms es hif hm kl ke)
    rw [show gk y = y from by unfold gk; rw [if_neg hif.lit.1, if_neg hif.lit.2]] at hgb
    obtain ⟨tb, ms', fb, ht⟩ := ic.ts hgb hif
    obtain ⟨ms0, hm0, hp⟩ := ht.im
    obtain rfl := IM.det hm hm0
    have hmN : IM K.D (norm y) ms := hm.under hif.under_norm
    refine .node _ _ _ _ _ _ (fun _ => ⟨by unfold anM; rw [List.length_map, kl], by rw [anM_keys]; exact ((hp.map keyM).nodup_iff).1 ht.srt.nodup⟩) fun e he => ?_
    obtain ⟨i, hi⟩ := List.getElem?_of_mem he
    have hlt := (List.getElem?_eq_some_iff.1 hi).1
    have hel : ms[i]? = some ms[i] := List.getElem?_eq_getElem (by omega)
    obtain ⟨j, hj⟩ := List.getElem?_of_mem (hp.mem_iff.2 (List.mem_of_getElem? hel))
    obtain ⟨pk, sv, _, _, _, hsv, _⟩ := ht.mth j _ hj
    have hgm := IM_good ic.ok hmN hgy _ (List.mem_of_getElem? hel)
    exact ih e he sv _ hsv (rdy_of hgm) (hgm.unalias ic.ok) (ke i _ e hel hi)
end
theorem c_typeSet_done (b tb : Nat) (w : World) (h : IfT w b (pt tb)) : Calls Tryz.prog 137 #[pt b] w (Ret fun r w' => r = pt tb ∧ w = w') := by
  have h2 := h
  obtain ⟨ma, mn, mc', ea, en, ec, h⟩ := h
  refine W.enter (args := [pt b]) Tryz.func137 rfl Tryz.ntmps137 rfl rfl ?_
  refine zst ?_
  refine WU.stp rfl rfl rfl (stp_call rfl (c_cits_done w 0 b tb h2)) ?_
  rintro _ _ ⟨rfl, rfl⟩
  refine zst ?_
  exact fin1 (.inl rfl) rfl rfl ⟨rfl, rfl⟩
end Go.Proofs.YtpiegpegjbmlkaaGreatDoor
namespace Go.Proofs.YtpiegpegjbmlkaaGreatDoor
open Go Go.Kd
set_option maxRecDepth 100000

abbrev tCM : Nat := 142
abbrev cmc (ign : Bool) : Array Value := #[.bool ign, .bool false]
/-- the stack of pairs of interfaces: all of them have deeper trees -/
inductive Stk (K : Cfg) (s : Gs) (w : World) : Nat → Nat → Option Addr → Prop
  | nil (dx dy : Nat) : Stk K s w dx dy none
  | cons (dx dy p xb yb : Nat) (a : Option Addr) (ux uy : Ty) (x y : X) : Has w p (.cells (prc xb yb a) tPR) → Pl w xb → Pl w yb → s.g xb = some ux → s.g yb = some uy → Root K.D ux x → Root K.D uy y → dx < dX x → dy < dX y → Stk K s w dx dy a → Stk K s w dx dy (some ⟨p, 0, none⟩)
theorem Stk.ext {K : Cfg} {s : Gs} {w w' : World} (e : Ext w w') {dx dy : Nat} {a : Option Addr} (h : Stk K s w dx dy a) : Stk K s w' dx dy a := by
  induction h with
  | nil => exact .nil dx dy
  | cons p xb yb a ux uy x y h1 h2 h3 h4 h5 h6 h7 h8 h9 _ ih => exact .cons dx dy p xb yb a ux uy x y (h1.ext' e) (h2.ext' e) (h3.ext' e) h4 h5 h6 h7 h8 h9 ih
theorem Stk.le {K : Cfg} {s : Gs} {w : World} {dx dy dx' dy' : Nat} (hx : dx' ≤ dx) (hy : dy' ≤ dy) {a : Option Addr} (h : Stk K s w dx dy a) : Stk K s w dx' dy' a := by
  induction h with
  | nil => exact .nil dx' dy'
  | cons p xb yb a ux uy x y h1 h2 h3 h4 h5 h6 h7 h8 h9 _ ih => exact .cons dx' dy' p xb yb a ux uy x y h1 h2 h3 h4 h5 h6 h7 (by omega) (by omega) ih
/-- a value that stands for a type with tree x -/
structure TX (K : Cfg) (s : Gs) (w : World) (v : Value) (t : Ty) (x : X) : Prop where
  rt : RT K s w s.sl v t
  rd : Rdy K K.D.length t
  gd : Good K.D (unaliasT K.D t)
  lg : Legal K.D (unaliasT K.D t)
  ex : Exp K.D t x
theorem TX.of {K : Cfg} {s : Gs} {w : World} (ic : IC K s w) {v : Value} {t : Ty} {x : X} (rt : RT K s w s.sl v t) (gd : Good K.D t) (lg : Legal K.D t) (ex : Exp K.D t x) : TX K s w v t x := ⟨rt, rdy_of gd, gd.unalias ic.ok, legal_unalias ic.vd gd lg, ex⟩
theorem TX.ext {K : Cfg} {s : Gs} {w w' : World} (e : Ext w w') {v : Value} {t : Ty} {x : X} (h : TX K s w v t x) : TX K s w' v t x := ⟨h.rt.ext e, h.rd, h.gd, h.lg, h.ex⟩
/-- .. no alias -/
structure RX (K : Cfg) (s : Gs) (w : World) (v : Value) (t : Ty) (x : X) : Prop where
  rt : RT K s w s.sl v t
  al : isAl K.D t = false
  rd : Rdy K K.D.length t
  gd : Good K.D (norm t)
  lg : Legal K.D (norm t)
  ro : Root K.D t x
theorem RX.ext {K : Cfg} {s : Gs} {w w' : World} (e : Ext w w') {v : Value} {t : Ty} {x : X} (h : RX K s w v t x) : RX K s w' v t x := ⟨h.rt.ext e, h.al, h.rd, h.gd, h.lg, h.ro⟩
/-- what identical answers -/
def IdG (K : Cfg) (s : Gs) (cb : Nat) (ign : Bool) (x : X) : Prop := ∀ (w : World) (vx vy : Value) (tx ty : Ty) (y : X) (a : Option Addr), IC K s w → Has w cb (.cells (cmc ign) tCM) → TX K s w vx tx x → TX K s w vy ty y → Stk K s w (dX x) (dX y) a →
  Calls Tryz.prog 91 #[pt cb, vx, vy, .pointer a] w (Ret fun r w' => r = .bool (idX (!ign) x y) ∧ Ext w w')
/-- .. behind the first steps -/
abbrev idFin (w : World) (r : Bool) : Post := fin Tryz.prog Tryz.f91 (Ret fun v w' => v = .bool r ∧ Ext w w')
def IdT (w : World) (cb : Nat) (vx vy : Value) (a : Option Addr) (r : Bool) : Prop := ∃ c, dropA 7 (bodyA Tryz.f91) = some c ∧ W Tryz.prog 581 c (idFin w r) [] [(0, pt cb), (1, vx), (2, vy), (3, .pointer a)] w
theorem dyn_ptr (x : X) : PtrT Tryz.prog (dynX x) ∧ CmpT Tryz.prog (dynX x) := by
  unfold dynX
  split
  · split <;> exact ⟨inferInstance, inferInstance⟩
  · unfold dynK
    repeat' split
    all_goals exact ⟨inferInstance, inferInstance⟩
set_option maxHeartbeats 1000000 in
theorem id_main {K : Cfg} {s : Gs} {cb : Nat} {ign : Bool} {x : X} (tail : ∀ (w : World) (vx vy : Value) (t1 t2 : Ty) (y : X) (a : Option Addr), IC K s w → Has w cb (.cells (cmc ign) tCM) → RX K s w vx t1 x → RX K s w vy t2 y → Stk K s w (dX x) (dX y) a → IdT w cb vx vy a (idX (!ign) x y)) : IdG K s cb ign x := by
  intro w vx vy tx ty y a ic hcb hx hy hst
  refine W.enter (args := [pt cb, vx, vy, .pointer a]) Tryz.func91 rfl Tryz.ntmps91 rfl rfl ?_
  refine zst ?_
  refine WU.stp rfl rfl rfl (stp_call rfl (c_gUnalias ic.ok.sh ic.dc ic.er hx.rt hx.rd)) ?_
  rintro _ _ ⟨rfl, t1, p1, p2, p3, ⟨T1, b1, rfl⟩, p5⟩
  refine zst ?_
  refine WU.stp rfl rfl rfl (stp_call rfl (c_gUnalias ic.ok.sh ic.dc ic.er hy.rt hy.rd)) ?_
  rintro _ _ ⟨rfl, t2, q1, q2, q3, ⟨T2, b2, rfl⟩, q5⟩
  have r1 : RX K s w (.iface T1 (pt b1)) t1 x := ⟨p1.mono fun d _ hd => hd.elim id id, p2, p5, by rw [← p3]; exact hx.gd, by rw [← p3]; exact hx.lg, exp_root p3 hx.ex⟩
  have r2 : RX K s w (.iface T2 (pt b2)) t2 y := ⟨q1.mono fun d _ hd => hd.elim id id, q2, q5, by rw [← q3]; exact hy.gd, by rw [← q3]; exact hy.lg, exp_root q3 hy.ex⟩
  obtain ⟨b1', e1, l1, g1⟩ := r1.rt.rootv ic p2 p5 r1.ro
  obtain ⟨b2', e2, l2, g2⟩ := r2.rt.rootv ic q2 q5 r2.ro
  cases e1
  cases e2
  refine zst ?_
  refine WU.yld rfl rfl rfl (yld_eql_ifo (fun _ => (dyn_ptr x).1) (fun _ => (dyn_ptr x).2) rfl rfl (fun c hc => by cases hc; exact l1) (fun c hc => by cases hc; exact l2)) ?_
  by_cases heq : dynX x = dynX y ∧ (some ⟨b1, 0, none⟩ : Option Addr) = some ⟨b2, 0, none⟩
  · rw [decide_eq_true heq]
    refine zst ?_
    have hb : b1 = b2 := congrArg (fun o : Option Addr => (o.getD default).block) heq.2
    subst hb
    rw [g1] at g2
    have hxy := gk_root r1.ro r2.ro (Option.some.inj g2) (fun h => (p5 h).1) (fun h => (q5 h).1)
    subst hxy
    exact fin1 (.inl rfl) rfl rfl ⟨by rw [idX_refl _ _ (hx.rt.wfx ic x _ _ hx.rd hx.gd hx.ex)], Ext.rfl' _⟩
  · rw [decide_eq_false heq]
    (repeat ((fail_if_success guard_target =~ gW (.seq (.region 7 _ _) _)); (fail_if_success guard_target =~ gW (.seq (.seq (.region 7 _ _) _) _)); refine zs1 ?_))
    exact W.useA (e' := [(0, pt cb), (1, .iface (dynX x) (pt b1)), (2, .iface (dynX y) (pt b2)), (3, .pointer a)]) (tail w _ _ t1 t2 y a ic hcb r1 r2 hst) rfl ⟨rfl, rfl, rfl, rfl, trivial⟩
end Go.Proofs.YtpiegpegjbmlkaaGreatDoor
namespace Go.Proofs.YtpiegpegjbmlkaaGreatDoor
open Go Go.Kd
set_option maxRecDepth 100000

set_option maxHeartbeats 4000000 in
/-- other dynamic types -/
theorem id_ne {w : World} {cb b1 b2 T1 T2 : Nat} {a : Option Addr} (h1 : litT T1 ∨ T1 = tNP) (hne : Nat.beq T2 T1 = false) (hal : Nat.beq T2 tAL = false) : IdT w cb (.iface T1 (pt b1)) (.iface T2 (pt b2)) a false := by
  refine ⟨_, rfl, ?_⟩
  rcases h1 with h1 | rfl
  · rcases h1 with rfl | rfl | rfl | rfl | rfl | rfl | rfl | rfl | rfl
    all_goals
      refine zst ?_
      first
        | exact fin1 (.inl rfl) rfl rfl ⟨rfl, Ext.rfl' _⟩
        | exact fin1 (.inr rfl) rfl rfl ⟨rfl, Ext.rfl' _⟩
  · refine zst ?_
    refine WU.stp rfl rfl rfl (stp_call rfl (c_asNamed_no T2 (pt b2) w hal hne)) ?_
    rintro _ _ ⟨rfl, rfl⟩
    refine zst ?_
    exact fin1 (.inl rfl) rfl rfl ⟨rfl, Ext.rfl' _⟩

/-! ### The parts of a type with one element -/
section
variable {K : Cfg} {s : Gs} {w : World} {v : Value} {t : Ty} {x : X}
theorem Root.plain_of {D : List De} {t : Ty} {x : X} (h : Root D t x) (h2 : 2 ≤ t.kind) (h8 : t.kind ≤ 8) : ∃ es, x = .node t.kind (nN t) (cN t) (vN t) (anN t) es ∧ es.length = t.elems.length ∧ ∀ (i : Nat) e z, t.elems[i]? = some e → es[i]? = some z → Exp D e z := by
  cases h with
  | basic _ k => omega
  | error k => omega
  | named k => omega
  | plain es _ _ hl he => exact ⟨es, rfl, hl, he⟩
  | iface _ _ k => rcases k with k | ⟨k, _⟩ <;> omega
theorem RX.good (h : RX K s w v t x) (h2 : 2 ≤ t.kind) : Good K.D t := by
  have := h.gd
  rwa [norm_named (by omega)] at this
theorem RX.legal (h : RX K s w v t x) (h2 : 2 ≤ t.kind) : Legal K.D t := by
  have := h.lg
  rwa [norm_named (by omega)] at this
theorem RX.one (h : RX K s w v t x) (ic : IC K s w) (h2 : 2 ≤ t.kind) (h8 : t.kind ≤ 8) {e : Ty} {u : Value} (he : t.elems = [e]) (hu : RT K s w s.sl u e) : ∃ z, TX K s w u e z ∧ x = .node t.kind (nN t) (cN t) (vN t) (anN t) [z] ∧ dX z < dX x := by
  obtain ⟨es, rfl, hl, hx⟩ := h.ro.plain_of h2 h8
  rw [he] at hl
  obtain ⟨z, rfl⟩ : ∃ z, es = [z] := List.length_eq_one_iff.1 (by simpa using hl)
  have h0 : t.elems[0]? = some e := by rw [he]; rfl
  exact ⟨z, .of ic hu ((h.good h2).el h0) ((h.legal h2).el 0 e h0) (hx 0 e z h0 rfl), rfl, dX_at (i := 0) rfl⟩
end
theorem idX_one {tags : Bool} {t t' : Ty} {z z' : X} (hk : t.kind = t'.kind) (h7 : t.kind ≠ 7) (h9 : t.kind ≠ 9) (h8 : t.kind ≠ 8) : idX tags (.node t.kind (nN t) (cN t) (vN t) (anN t) [z]) (.node t'.kind (nN t') (cN t') (vN t') (anN t') [z']) = (nN t == nN t' && idX tags z z') := by
  rw [idX_node]
  unfold cN vN anN
  rw [if_neg h9, if_neg h8, if_neg h7, if_neg (by omega), if_neg (by omega), if_neg (by omega), if_neg (by omega), hk]
  simp [sameAn, idL]
set_option maxHeartbeats 1000000 in
theorem id_ptr {K : Cfg} {s : Gs} {w : World} {cb : Nat} {ign : Bool} {x y : X} {vx vy : Value} {t1 t2 : Ty} {a : Option Addr} (ih : ∀ z, dX z < dX x → IdG K s cb ign z) (ic : IC K s w) (hcb : Has w cb (.cells (cmc ign) tCM)) (hx : RX K s w vx t1 x) (hy : RX K s w vy t2 y) (hst : Stk K s w (dX x) (dX y) a) (k1 : t1.kind = 2) (k2 : t2.kind = 2) : IdT w cb vx vy a (idX (!ign) x y) := by
  obtain ⟨rt1, rt2⟩ := (⟨hx.rt, hy.rt⟩ : _ ∧ _)
  cases rt1 with
  | ptr _ e1 u1 b1 _ h1 r1 _ m1 g1 =>
    cases rt2 with
    | ptr _ e2 u2 b2 _ h2 r2 _ m2 g2 =>
      obtain ⟨z1, tx1, ex1, d1⟩ := hx.one ic (by omega) (by omega) h1 r1
      obtain ⟨z2, tx2, ex2, d2⟩ := hy.one ic (by omega) (by omega) h2 r2
      refine ⟨_, rfl, ?_⟩
      refine zst ?_
      refine W.regD [(0, .q), (1, .q), (2, .q), (3, .q), (4, .q), (5, .q), (6, .q), (7, .q), (8, .q), (9, .q), (10, .l), (11, .q)] (by kernel_rfl) (by kernel_rfl) rfl ?_
      intro w1 x1 _
      have m1' := m1.ext' x1
      have m2' := m2.ext' x1
      refine zsd ?_
      refine WD.stp rfl rfl rfl rfl (stp_call rfl (ih z1 d1 w1 u1 u2 e1 e2 z2 a (ic.ext x1) (hcb.ext' x1) (tx1.ext x1) (tx2.ext x1) ((hst.ext x1).le (by omega) (by omega)))) ?_
      rintro _ w2 ⟨rfl, x2⟩
      refine ⟨x2, ?_⟩
      refine zsd ?_
      refine zst ?_
      refine fin1 (.inl rfl) rfl rfl ⟨?_, x1.trans x2⟩
      rw [ex1, ex2, idX_one (by omega) (by omega) (by omega) (by omega)]
      unfold nN
      simp [k1, k2]
    | _ => omega
  | _ => omega

set_option maxHeartbeats 1000000 in
theorem id_slice {K : Cfg} {s : Gs} {w : World} {cb : Nat} {ign : Bool} {x y : X} {vx vy : Value} {t1 t2 : Ty} {a : Option Addr} (ih : ∀ z, dX z < dX x → IdG K s cb ign z) (ic : IC K s w) (hcb : Has w cb (.cells (cmc ign) tCM)) (hx : RX K s w vx t1 x) (hy : RX K s w vy t2 y) (hst : Stk K s w (dX x) (dX y) a) (k1 : t1.kind = 3) (k2 : t2.kind = 3) : IdT w cb vx vy a (idX (!ign) x y) := by
  obtain ⟨rt1, rt2⟩ := (⟨hx.rt, hy.rt⟩ : _ ∧ _)
  cases rt1 with
  | slice _ e1 u1 b1 _ h1 r1 _ m1 g1 =>
    cases rt2 with
    | slice _ e2 u2 b2 _ h2 r2 _ m2 g2 =>
      obtain ⟨z1, tx1, ex1, d1⟩ := hx.one ic (by omega) (by omega) h1 r1
      obtain ⟨z2, tx2, ex2, d2⟩ := hy.one ic (by omega) (by omega) h2 r2
      refine ⟨_, rfl, ?_⟩
      refine zst ?_
      refine W.regD [(0, .q), (1, .q), (2, .q), (3, .q), (4, .q), (5, .q), (6, .q), (7, .q), (8, .q), (9, .q), (10, .l), (11, .q)] (by kernel_rfl) (by kernel_rfl) rfl ?_
      intro w1 x1 _
      have m1' := m1.ext' x1
      have m2' := m2.ext' x1
      refine zsd ?_
      refine WD.stp rfl rfl rfl rfl (stp_call rfl (ih z1 d1 w1 u1 u2 e1 e2 z2 a (ic.ext x1) (hcb.ext' x1) (tx1.ext x1) (tx2.ext x1) ((hst.ext x1).le (by omega) (by omega)))) ?_
      rintro _ w2 ⟨rfl, x2⟩
      refine ⟨x2, ?_⟩
      refine zsd ?_
      refine zst ?_
      refine fin1 (.inl rfl) rfl rfl ⟨?_, x1.trans x2⟩
      rw [ex1, ex2, idX_one (by omega) (by omega) (by omega) (by omega)]
      unfold nN
      simp [k1, k2]
    | _ => omega
  | _ => omega

set_option maxHeartbeats 1000000 in
theorem id_chan {K : Cfg} {s : Gs} {w : World} {cb : Nat} {ign : Bool} {x y : X} {vx vy : Value} {t1 t2 : Ty} {a : Option Addr} (ih : ∀ z, dX z < dX x → IdG K s cb ign z) (ic : IC K s w) (hcb : Has w cb (.cells (cmc ign) tCM)) (hx : RX K s w vx t1 x) (hy : RX K s w vy t2 y) (hst : Stk K s w (dX x) (dX y) a) (k1 : t1.kind = 6) (k2 : t2.kind = 6) : IdT w cb vx vy a (idX (!ign) x y) := by
  obtain ⟨rt1, rt2⟩ := (⟨hx.rt, hy.rt⟩ : _ ∧ _)
  cases rt1 with
  | chan _ e1 u1 b1 _ h1 r1 _ m1 g1 =>
    cases rt2 with
    | chan _ e2 u2 b2 _ h2 r2 _ m2 g2 =>
      obtain ⟨z1, tx1, ex1, d1⟩ := hx.one ic (by omega) (by omega) h1 r1
      obtain ⟨z2, tx2, ex2, d2⟩ := hy.one ic (by omega) (by omega) h2 r2
      have hn : idX (!ign) x y = (t1.n == t2.n && idX (!ign) z1 z2) := by
        rw [ex1, ex2, idX_one (by omega) (by omega) (by omega) (by omega)]
        unfold nN
        simp [k1, k2]
      rw [hn]
      refine ⟨_, rfl, ?_⟩
      refine zst ?_
      refine W.regD [(0, .q), (1, .q), (2, .q), (3, .q), (4, .q), (5, .q), (6, .q), (7, .q), (8, .q), (9, .q), (10, .q), (11, .q), (12, .q), (13, .q), (14, .q), (15, .q), (16, .q), (17, .q), (18, .q), (19, .q), (20, .l), (21, .q), (22, .q)] (by kernel_rfl) (by kernel_rfl) rfl ?_
      intro w1 x1 _
      have m1' := m1.ext' x1
      have m2' := m2.ext' x1
      refine zsd ?_
      cases hq : t1.n == t2.n
      · refine zsd ?_
        refine zst ?_
        exact fin1 (.inl rfl) rfl rfl ⟨rfl, x1⟩
      · refine zsd ?_
        refine WD.stp rfl rfl rfl rfl (stp_call rfl (ih z1 d1 w1 u1 u2 e1 e2 z2 a (ic.ext x1) (hcb.ext' x1) (tx1.ext x1) (tx2.ext x1) ((hst.ext x1).le (by omega) (by omega)))) ?_
        rintro _ w2 ⟨rfl, x2⟩
        refine ⟨x2, ?_⟩
        refine zsd ?_
        refine zst ?_
        exact fin1 (.inl rfl) rfl rfl ⟨rfl, x1.trans x2⟩
    | _ => omega
  | _ => omega

set_option maxHeartbeats 1000000 in
theorem id_array {K : Cfg} {s : Gs} {w : World} {cb : Nat} {ign : Bool} {x y : X} {vx vy : Value} {t1 t2 : Ty} {a : Option Addr} (ih : ∀ z, dX z < dX x → IdG K s cb ign z) (ic : IC K s w) (hcb : Has w cb (.cells (cmc ign) tCM)) (hx : RX K s w vx t1 x) (hy : RX K s w vy t2 y) (hst : Stk K s w (dX x) (dX y) a) (k1 : t1.kind = 4) (k2 : t2.kind = 4) : IdT w cb vx vy a (idX (!ign) x y) := by
  obtain ⟨rt1, rt2⟩ := (⟨hx.rt, hy.rt⟩ : _ ∧ _)
  cases rt1 with
  | array _ e1 u1 b1 _ h1 r1 _ m1 g1 =>
    cases rt2 with
    | array _ e2 u2 b2 _ h2 r2 _ m2 g2 =>
      obtain ⟨z1, tx1, ex1, d1⟩ := hx.one ic (by omega) (by omega) h1 r1
      obtain ⟨z2, tx2, ex2, d2⟩ := hy.one ic (by omega) (by omega) h2 r2
      have hn : idX (!ign) x y = (t1.n == t2.n && idX (!ign) z1 z2) := by
        rw [ex1, ex2, idX_one (by omega) (by omega) (by omega) (by omega)]
        unfold nN
        simp [k1, k2]
      have p1 : 0 ≤ t1.n := by
        obtain ⟨i, v, _, q⟩ := (hx.good (by omega)).sh
        exact q.shape.n0 (by rw [k1]; simp [limitN])
      have p2 : 0 ≤ t2.n := by
        obtain ⟨i, v, _, q⟩ := (hy.good (by omega)).sh
        exact q.shape.n0 (by rw [k2]; simp [limitN])
      rw [hn]
      refine ⟨_, rfl, ?_⟩
      refine zst ?_
      refine W.regD [(0, .q), (1, .q), (2, .q), (3, .q), (4, .q), (5, .q), (6, .q), (7, .q), (8, .q), (9, .q), (10, .q), (11, .q), (12, .q), (13, .q), (14, .q), (15, .q), (16, .q), (17, .q), (18, .q), (19, .q), (20, .q), (21, .q), (22, .q), (23, .q), (24, .q), (25, .q), (26, .q), (27, .q), (28, .q), (29, .q), (30, .q), (31, .q), (32, .q), (33, .q), (34, .l), (35, .q), (36, .q)] (by kernel_rfl) (by kernel_rfl) rfl ?_
      intro w1 x1 _
      have m1' := m1.ext' x1
      have m2' := m2.ext' x1
      refine zsd ?_
      rw [decide_eq_false (show ¬ t1.n < 0 by omega)]
      refine zsd ?_
      rw [decide_eq_false (show ¬ t2.n < 0 by omega)]
      refine zsd ?_
      cases hq : t1.n == t2.n
      · refine zsd ?_
        refine zst ?_
        exact fin1 (.inl rfl) rfl rfl ⟨rfl, x1⟩
      · refine zsd ?_
        refine WD.stp rfl rfl rfl rfl (stp_call rfl (ih z1 d1 w1 u1 u2 e1 e2 z2 a (ic.ext x1) (hcb.ext' x1) (tx1.ext x1) (tx2.ext x1) ((hst.ext x1).le (by omega) (by omega)))) ?_
        rintro _ w2 ⟨rfl, x2⟩
        refine ⟨x2, ?_⟩
        refine zsd ?_
        refine zst ?_
        exact fin1 (.inl rfl) rfl rfl ⟨rfl, x1.trans x2⟩
    | _ => omega
  | _ => omega
end Go.Proofs.YtpiegpegjbmlkaaGreatDoor
namespace Go.Proofs.YtpiegpegjbmlkaaGreatDoor
open Go Go.Kd
set_option maxRecDepth 100000

theorem idX_two {tags : Bool} {t t' : Ty} {z z' q q' : X} (hk : t.kind = 5) (hk' : t'.kind = 5) : idX tags (.node t.kind (nN t) (cN t) (vN t) (anN t) [z, q]) (.node t'.kind (nN t') (cN t') (vN t') (anN t') [z', q']) = (idX tags z z' && idX tags q q') := by
  rw [idX_node]
  unfold nN cN vN anN
  simp [hk, hk', sameAn, idL]
theorem RX.two {K : Cfg} {s : Gs} {w : World} {v : Value} {t : Ty} {x : X} (h : RX K s w v t x) (ic : IC K s w) (h5 : t.kind = 5) {k e : Ty} {u u' : Value} (he : t.elems = [k, e]) (hu : RT K s w s.sl u k) (hu' : RT K s w s.sl u' e) : ∃ z q, TX K s w u k z ∧ TX K s w u' e q ∧ x = .node t.kind (nN t) (cN t) (vN t) (anN t) [z, q] ∧ dX z < dX x ∧ dX q < dX x := by
  obtain ⟨es, rfl, hl, hx⟩ := h.ro.plain_of (by omega) (by omega)
  rw [he] at hl
  obtain ⟨z, q, rfl⟩ : ∃ z q, es = [z, q] := by
    match es, hl with
    | [z, q], _ => exact ⟨z, q, rfl⟩
  have h0 : t.elems[0]? = some k := by rw [he]; rfl
  have h1 : t.elems[1]? = some e := by rw [he]; rfl
  have hg := h.good (by omega)
  have hl := h.legal (by omega)
  exact ⟨z, q, .of ic hu (hg.el h0) (hl.el 0 k h0) (hx 0 k z h0 rfl), .of ic hu' (hg.el h1) (hl.el 1 e h1) (hx 1 e q h1 rfl), rfl, dX_at (i := 0) rfl, dX_at (i := 1) rfl⟩
set_option maxHeartbeats 1000000 in
theorem id_map {K : Cfg} {s : Gs} {w : World} {cb : Nat} {ign : Bool} {x y : X} {vx vy : Value} {t1 t2 : Ty} {a : Option Addr} (ih : ∀ z, dX z < dX x → IdG K s cb ign z) (ic : IC K s w) (hcb : Has w cb (.cells (cmc ign) tCM)) (hx : RX K s w vx t1 x) (hy : RX K s w vy t2 y) (hst : Stk K s w (dX x) (dX y) a) (k1 : t1.kind = 5) (k2 : t2.kind = 5) : IdT w cb vx vy a (idX (!ign) x y) := by
  obtain ⟨rt1, rt2⟩ := (⟨hx.rt, hy.rt⟩ : _ ∧ _)
  cases rt1 with
  | map _ e1 f1 u1 v1 b1 _ h1 r1 r1' _ m1 g1 =>
    cases rt2 with
    | map _ e2 f2 u2 v2 b2 _ h2 r2 r2' _ m2 g2 =>
      obtain ⟨z1, q1, tx1, ty1, ex1, d1, c1⟩ := hx.two ic (by omega) h1 r1 r1'
      obtain ⟨z2, q2, tx2, ty2, ex2, d2, c2⟩ := hy.two ic (by omega) h2 r2 r2'
      have hn : idX (!ign) x y = (idX (!ign) z1 z2 && idX (!ign) q1 q2) := by rw [ex1, ex2, idX_two k1 k2]
      rw [hn]
      refine ⟨_, rfl, ?_⟩
      refine zst ?_
      refine W.regD [(0, .q), (1, .q), (2, .q), (3, .q), (4, .q), (5, .q), (6, .q), (7, .q), (8, .q), (9, .q), (10, .l), (11, .q), (12, .q), (13, .q), (14, .q), (15, .q), (16, .q), (17, .q), (18, .q), (19, .q), (20, .q), (21, .q), (22, .l), (23, .q), (24, .q)] (by kernel_rfl) (by kernel_rfl) rfl ?_
      intro w1 x1 _
      have m1' := m1.ext' x1
      have m2' := m2.ext' x1
      refine zsd ?_
      refine WD.stp rfl rfl rfl rfl (stp_call rfl (ih z1 d1 w1 u1 u2 e1 e2 z2 a (ic.ext x1) (hcb.ext' x1) (tx1.ext x1) (tx2.ext x1) ((hst.ext x1).le (by omega) (by omega)))) ?_
      rintro _ w2 ⟨rfl, x2⟩
      refine ⟨x2, ?_⟩
      have x12 := x1.trans x2
      have m1'' := m1.ext' x12
      have m2'' := m2.ext' x12
      cases hq : idX (!ign) z1 z2
      · refine zsd ?_
        refine zst ?_
        exact fin1 (.inl rfl) rfl rfl ⟨rfl, x12⟩
      · refine zsd ?_
        refine WD.stp rfl rfl rfl rfl (stp_call rfl (ih q1 c1 w2 v1 v2 f1 f2 q2 a (ic.ext x12) (hcb.ext' x12) (ty1.ext x12) (ty2.ext x12) ((hst.ext x12).le (by omega) (by omega)))) ?_
        rintro _ w3 ⟨rfl, x3⟩
        refine ⟨x3, ?_⟩
        refine zsd ?_
        refine zst ?_
        exact fin1 (.inl rfl) rfl rfl ⟨rfl, x12.trans x3⟩
    | _ => omega
  | _ => omega
theorem id_basic {K : Cfg} {s : Gs} {w : World} {cb : Nat} {ign : Bool} {n n' : Int} {vx vy : Value} {t1 t2 : Ty} {a : Option Addr} (hx : RT K s w s.sl vx t1) (hy : RT K s w s.sl vy t2) (k1 : t1.kind = 0) (p1 : t1.n ≠ 20) (q1 : t1.n ≠ 21) (e1 : n = (if t1.n = 18 then 7 else if t1.n = 19 then 4 else t1.n)) (k2 : t2.kind = 0) (p2 : t2.n ≠ 20) (q2 : t2.n ≠ 21) (e2 : n' = (if t2.n = 18 then 7 else if t2.n = 19 then 4 else t2.n)) :
    IdT w cb vx vy a (idX (!ign) (.leaf 0 n) (.leaf 0 n')) := by
  cases hx with
  | basic _ b1 i1 nb1 _ l1 l1' _ m1 g1 =>
    cases hy with
    | basic _ b2 i2 nb2 _ l2 l2' _ m2 g2 =>
      have hn : idX (!ign) (.leaf 0 n) (.leaf 0 n') = (bk t1.n == bk t2.n) := by
        simp only [idX, beq_self_eq_true, Bool.true_and]
        rw [Bool.eq_iff_iff, beq_iff_eq, beq_iff_eq, e1, e2]
        unfold bk
        repeat' split
        all_goals omega
      rw [hn]
      refine ⟨_, rfl, ?_⟩
      refine zst ?_
      refine W.regD [(0, .q), (1, .q), (2, .q), (3, .q), (4, .q), (5, .q), (6, .q), (7, .q), (8, .q), (9, .q)] (by kernel_rfl) (by kernel_rfl) rfl ?_
      intro w1 x1 _
      have m1' := m1.ext' x1
      have m2' := m2.ext' x1
      refine zsd ?_
      refine zst ?_
      exact fin1 (.inl rfl) rfl rfl ⟨rfl, x1⟩
    | _ => omega
  | _ => omega

/-! ### Declared types -/
theorem dynK_ne (k : Int) : dynK k ≠ tNP := by
  unfold dynK
  repeat' split
  all_goals decide
theorem c_asNamed_yes (b T ub : Nat) (obj ms : Value) (w : World) (_h : NamV w b obj (.iface T (pt ub)) ms) : Calls Tryz.prog 97 #[.iface tNP (pt b)] w (Ret fun r w' => r = pt b ∧ w = w') := by
  refine W.enter (args := [.iface tNP (pt b)]) Tryz.func97 rfl Tryz.ntmps97 rfl rfl ?_
  refine zst ?_
  refine WU.stp rfl rfl rfl (stp_call rfl (c_Unalias_no tNP (pt b) w rfl)) ?_
  rintro _ _ ⟨rfl, rfl⟩
  refine zst ?_
  exact fin1 (.inl rfl) rfl rfl ⟨rfl, rfl⟩
theorem c_identicalOrigin (b1 b2 ob1 ob2 : Nat) (u1 u2 ms1 ms2 : Value) (w : World) (h1 : NamV w b1 (pt ob1) u1 ms1) (h2 : NamV w b2 (pt ob2) u2 ms2) (l1 : Pl w ob1) (l2 : Pl w ob2) :
    Calls Tryz.prog 140 #[pt b1, pt b2] w (Ret fun r w' => r = .bool (decide (ob1 = ob2)) ∧ Ext w w') := by
  have h1' : Has w b1 (.cells (nmc (pt ob1) false 0 15 u1 u1 ms1) tNM) := h1
  have h2' : Has w b2 (.cells (nmc (pt ob2) false 0 15 u2 u2 ms2) tNM) := h2
  refine W.enter (args := [pt b1, pt b2]) Tryz.func140 rfl Tryz.ntmps140 rfl rfl ?_
  refine zst ?_
  refine W.regD [(0, .q), (1, .q), (2, .q), (3, .q), (4, .q), (5, .q), (6, .q), (7, .q), (8, .q), (9, .q)] (by kernel_rfl) (by kernel_rfl) rfl ?_
  intro w1 x1 _
  have k1 := h1'.ext' x1
  have k2 := h2'.ext' x1
  have p1 := l1.ext' x1
  have p2 := l2.ext' x1
  refine zsd ?_
  refine WD.yld rfl rfl rfl rfl (yld_eql_ptr rfl rfl) ?_
  refine zsd ?_
  refine zst ?_
  exact fin1 (.inl rfl) rfl rfl ⟨by simp, x1⟩
/-- what lies behind a declared type, or error -/
theorem RX.nam {K : Cfg} {s : Gs} {w : World} (ic : IC K s w) {v : Value} {t : Ty} {x : X} (h : RX K s w v t x) (hd : dynX x = tNP) : ∃ b ob u ms pk nm, v = .iface tNP (pt b) ∧ NamV w b (pt ob) u ms ∧ TnV w ob pk nm (.iface tNP (pt b)) ∧ s.g b = some (gk t) ∧ ∃ T ub, u = .iface T (pt ub) := by
  have hd' := hd
  cases hro : h.ro with
  | basic n h0 h1 h2 h3 =>
    exfalso
    have h20 : n ≠ 20 := by
      rw [h3]
      split
      · omega
      split <;> omega
    have : dynX (.leaf 0 n) = 109 := by
      show (if (0 : Int) = 1 ∨ n = 20 then tNP else _) = _
      rw [if_neg (by omega)]
    rw [this] at hd
    exact absurd hd (by decide)
  | error h0 h1 =>
    obtain ⟨b, ob, u, ms, nm, q1, q2, q3, q4, q5⟩ := ic.er
    have hv := h.rt.err h0 h1
    rw [q1] at hv q3
    exact ⟨b, ob, u, ms, _, _, hv, q4, q3, by unfold gk; rw [if_neg (by omega), if_pos ⟨h0, h1⟩]; exact q2, q5.isI isLit_errT⟩
  | named hk =>
    obtain ⟨h0, h1, h2⟩ := h.rd hk
    have hel := List.getElem?_eq_getElem h1
    obtain ⟨b, ob, T, ub, ms, z, hv, k1, k2, k3, _⟩ := ic.dc.def_ hel h2 (by rw [← isAl_n hk hel]; exact h.al) (h.rt.nam hk)
    exact ⟨b, ob, _, ms, _, _, hv, k3, k2, by unfold gk; rw [if_pos hk]; exact k1, T, ub, rfl⟩
  | plain es h2 h8 =>
    exact absurd hd (dynK_ne _)
  | iface ms es => exact absurd hd (dynK_ne _)
theorem id_named {K : Cfg} {s : Gs} {w : World} {cb : Nat} {ign : Bool} {x y : X} {vx vy : Value} {t1 t2 : Ty} {a : Option Addr} (ic : IC K s w) (hx : RX K s w vx t1 x) (hy : RX K s w vy t2 y) (d1 : dynX x = tNP) (d2 : dynX y = tNP) (hwx : WfX x) : IdT w cb vx vy a (idX (!ign) x y) := by
  obtain ⟨b1, ob1, _, ms1, pk1, nm1, rfl, n1, o1, g1, T1, ub1, rfl⟩ := hx.nam ic d1
  obtain ⟨b2, ob2, _, ms2, pk2, nm2, rfl, n2, o2, g2, T2, ub2, rfl⟩ := hy.nam ic d2
  have hn : idX (!ign) x y = decide (ob1 = ob2) := by
    rw [Bool.eq_iff_iff, decide_eq_true_eq]
    constructor
    · intro h
      have hxy : y = x := by
        cases hx.ro with
        | basic n => exact idX_leaf h
        | error => exact idX_leaf h
        | named => exact idX_leaf h
        | plain es h2 h8 =>
          exact absurd d1 (dynK_ne _)
        | iface ms es => exact absurd d1 (dynK_ne _)
      subst hxy
      have hb : b1 = b2 := by
        have key : ∀ {t : Ty} {b : Nat}, RX K s w (.iface tNP (pt b)) t y → (y = .leaf 0 20 ∧ s.er = .iface tNP (pt b)) ∨ (∃ n : Int, y = .leaf 1 n ∧ s.nm n.toNat = some (.iface tNP (pt b))) := fun {t b} hr => by
          have hr2 := hr.ro
          cases hr2 with
          | basic n h0 h1 h2 h3 =>
            exfalso
            have h20 : n ≠ 20 := by
              rw [h3]
              split
              · omega
              split <;> omega
            have : dynX (.leaf 0 n) = 109 := by
              show (if (0 : Int) = 1 ∨ n = 20 then tNP else _) = _
              rw [if_neg (by omega)]
            rw [this] at d1
            exact absurd d1 (by decide)
          | error h0 h1 => exact .inl ⟨rfl, (hr.rt.err h0 h1).symm⟩
          | named hk => exact .inr ⟨_, rfl, hr.rt.nam hk⟩
          | plain es h2 h8 =>
            exact absurd d1 (dynK_ne _)
          | iface ms es => exact absurd d1 (dynK_ne _)
        rcases key hx with ⟨e1, f1⟩ | ⟨n, e1, f1⟩ <;> rcases key hy with ⟨e2, f2⟩ | ⟨n', e2, f2⟩
        · rw [f1] at f2; cases f2; rfl
        · rw [e1] at e2; cases e2
        · rw [e1] at e2; cases e2
        · rw [e1] at e2
          cases e2
          rw [f1] at f2; cases f2; rfl
      subst hb
      have e := n1.at_.symm.trans n2.at_
      simp only [Option.some.injEq, Obj.cells.injEq, and_true] at e
      have e2 := congrArg Array.toList e
      simp only [List.cons.injEq, and_true, true_and] at e2
      have e3 := e2.1
      simp only [Value.pointer.injEq, Option.some.injEq, Addr.mk.injEq, and_true] at e3
      exact e3
    · intro h
      subst h
      have e := o1.at_.symm.trans o2.at_
      simp only [Option.some.injEq, Obj.cells.injEq, and_true] at e
      have e2 := congrArg Array.toList e
      simp only [List.cons.injEq, and_true, true_and] at e2
      have hb : b1 = b2 := by
        have e3 := e2.2.2
        simp only [Value.iface.injEq, Value.pointer.injEq, Option.some.injEq, Addr.mk.injEq, and_true, true_and] at e3
        exact e3
      subst hb
      rw [g1] at g2
      have hxy := gk_root hx.ro hy.ro (Option.some.inj g2) (fun h => (hx.rd h).1) (fun h => (hy.rd h).1)
      subst hxy
      exact idX_refl _ _ hwx
  rw [hn]
  refine ⟨_, rfl, ?_⟩
  refine zst ?_
  refine WU.stp rfl rfl rfl (stp_call rfl (c_asNamed_yes b2 T2 ub2 _ _ w n2)) ?_
  rintro _ _ ⟨rfl, rfl⟩
  refine zst ?_
  refine WU.stp rfl rfl rfl (stp_call rfl (c_identicalOrigin b1 b2 ob1 ob2 _ _ _ _ w n1 n2 ⟨_, _, o1.at_⟩ ⟨_, _, o2.at_⟩)) ?_
  rintro _ w1 ⟨rfl, x1⟩
  refine zst ?_
  first
    | exact fin1 (.inl rfl) rfl rfl ⟨rfl, x1⟩
    | exact fin1 (.inr rfl) rfl rfl ⟨rfl, x1⟩
end Go.Proofs.YtpiegpegjbmlkaaGreatDoor
namespace Go.Proofs.YtpiegpegjbmlkaaGreatDoor
open Go Go.Kd
set_option maxRecDepth 100000


abbrev tSK : Nat := 98
theorem c_samePkg2 (c c' : Nat) (pa px pa' px' : ByteArray) (w : World) (h : Has w c (.cells #[.string pa, .string px] tPK)) (h' : Has w c' (.cells #[.string pa', .string px'] tPK)) : Calls Tryz.prog 124 #[pt c, pt c'] w (Ret fun r w' => r = .bool (pa.toList == pa'.toList) ∧ Ext w w') := by
  refine W.enter (args := [pt c, pt c']) Tryz.func124 rfl Tryz.ntmps124 rfl rfl ?_
  refine zst ?_
  refine W.regD [(0, .q), (1, .q), (2, .q), (3, .q), (4, .q), (5, .q), (6, .q), (7, .q), (8, .q), (9, .q)] (by kernel_rfl) (by kernel_rfl) rfl ?_
  intro w2 x2 _
  have h2 := h.ext' x2
  have h2' := h'.ext' x2
  refine zsd ?_
  refine zst ?_
  exact fin1 (.inl rfl) rfl rfl ⟨rfl, x2⟩
theorem c_sameId (vb c c' : Nat) (nm nm' pa px pa' px' : ByteArray) (v : Value) (kd : Int) (emb : Bool) (w : World) (hp : Prp w) (hv : VarV w vb (pt c) nm v kd emb) (h : Has w c (.cells #[.string pa, .string px] tPK)) (h' : Has w c' (.cells #[.string pa', .string px'] tPK)) (ha : Asc nm) :
    Calls Tryz.prog 133 #[pt vb, pt c', .string nm', .bool false] w (Ret fun r w' => r = .bool (nm.toList == nm'.toList && (expo nm.toList || pa.toList == pa'.toList)) ∧ Ext w w') := by
  obtain ⟨ch, l, hs, hc⟩ := ha
  have hv' : Has w vb (.cells #[.int .i64 0, pt c, .string nm, v, .int .u8 kd, .bool emb] 106) := hv
  refine W.enter (args := [pt vb, pt c', .string nm', .bool false]) Tryz.func133 rfl Tryz.ntmps133 rfl rfl ?_
  refine zst ?_
  cases hn : nm.toList == nm'.toList
  · refine zst ?_
    exact fin1 (.inl rfl) rfl rfl ⟨rfl, Ext.rfl' _⟩
  · refine zst ?_
    have he : Calls Tryz.prog 165 #[pt vb] w (Ret fun r w' => r = .bool (expo nm.toList) ∧ w = w') := by
      refine W.enter (args := [pt vb]) Tryz.func165 rfl Tryz.ntmps165 rfl rfl ?_
      refine zst ?_
      refine WU.stp rfl rfl rfl (stp_call rfl (c_expo nm ch l w hp hs hc)) ?_
      rintro _ _ ⟨rfl, rfl⟩
      refine zst ?_
      exact fin1 (.inl rfl) rfl rfl ⟨rfl, rfl⟩
    refine WU.stp rfl rfl rfl (stp_call rfl (he)) ?_
    rintro _ _ ⟨rfl, rfl⟩
    cases hx : expo nm.toList
    · refine zst ?_
      refine WU.stp rfl rfl rfl (stp_call rfl (c_samePkg2 c c' pa px pa' px' w h h')) ?_
      rintro _ w2 ⟨rfl, x2⟩
      refine zst ?_
      exact fin1 (.inl rfl) rfl rfl ⟨rfl, x2⟩
    · refine zst ?_
      exact fin1 (.inl rfl) rfl rfl ⟨rfl, Ext.rfl' _⟩
theorem c_NumFields (b n m fc tc : Nat) (fa ta : Option Addr) (w : World) (h : Has w b (.cells #[.slice fa n fc, .slice ta m tc] tSK)) : Calls Tryz.prog 53 #[pt b] w (Ret fun r w' => r = .int .i64 n ∧ w = w') := by
  refine W.enter (args := [pt b]) Tryz.func53 rfl Tryz.ntmps53 rfl rfl ?_
  refine zst ?_
  exact fin1 (.inl rfl) rfl rfl ⟨rfl, rfl⟩
theorem c_Tag (b n m fc tc i : Nat) (fa ta : Option Addr) (tg : Nat → ByteArray) (p : Nat → Prop) (w : World) (h : Has w b (.cells #[.slice fa n fc, .slice ta m tc] tSK)) (hr : RowS w p ta m tg) (hi : i < m) (_hm : m ≤ 1073741824) : Calls Tryz.prog 132 #[pt b, .int .i64 i] w (Ret fun r w' => r = .string (tg i) ∧ w = w') := by
  obtain ⟨g, cs, rfl, _, hg, hci⟩ := hr i hi
  refine W.enter (args := [pt b, .int .i64 i]) Tryz.func132 rfl Tryz.ntmps132 rfl rfl ?_
  refine zst ?_
  rw [show decide ((i : Int) < (m : Int)) = true by simpa using hi]
  refine zst ?_
  refine WU.yld rfl rfl rfl (yld_load_c rfl (by rw [Nat.mul_one, Nat.zero_add]; exact cell_of hg hci)) ?_
  refine zst ?_
  exact fin1 (.inl rfl) rfl rfl ⟨rfl, rfl⟩
theorem RowQ.cell {w : World} {p : Nat → Prop} {t : Nat} {a : Option Addr} {n : Nat} {f : Nat → Nat} (h : RowQ w p t a n f) {i : Nat} (hi : i < n) : ∃ b, a = some ⟨b, 0, none⟩ ∧ p b ∧ w.cell? ⟨b, 0 + i * 1, none⟩ = some (pt (f i)) := by
  obtain ⟨b, cs, h1, h2, h3, h4⟩ := h i hi
  exact ⟨b, h1, h2, by rw [Nat.mul_one, Nat.zero_add]; exact cell_of h3 h4⟩
end Go.Proofs.YtpiegpegjbmlkaaGreatDoor
namespace Go.Proofs.YtpiegpegjbmlkaaGreatDoor
open Go Go.Kd
set_option maxRecDepth 100000

theorem RowS.ext {w w' : World} (x : Ext w w') {p : Nat → Prop} {a : Option Addr} {n : Nat} {f : Nat → ByteArray} (h : RowS w p a n f) : RowS w' p a n f := fun i hi => by
  obtain ⟨b, cs, h1, h2, h3, h4⟩ := h i hi
  exact ⟨b, cs, h1, h2, h3.ext' x, h4⟩
def SF (tags : Bool) (t1 t2 e e' : Ty) (z z' : X) : Prop := keyOf e.name.toList t1.n = keyOf e'.name.toList t2.n ∧ e.emb = e'.emb ∧ (tags = true → e.tag.toList = e'.tag.toList) ∧ idX tags z z' = true
theorem idX_struct {tags : Bool} {t1 t2 : Ty} {es1 es2 : List X} (k1 : t1.kind = 7) (k2 : t2.kind = 7) (l1 : es1.length = t1.elems.length) (l2 : es2.length = t2.elems.length) :
    idX tags (.node t1.kind (nN t1) (cN t1) (vN t1) (anN t1) es1) (.node t2.kind (nN t2) (cN t2) (vN t2) (anN t2) es2) = true ↔ t1.elems.length = t2.elems.length ∧ ∀ (i : Nat) e e' z z', t1.elems[i]? = some e → t2.elems[i]? = some e' → es1[i]? = some z → es2[i]? = some z' → SF tags t1 t2 e e' z z' := by
  rw [idX_node]
  unfold nN cN vN anN
  simp only [k1, k2, beq_self_eq_true, Bool.true_and, if_true, show ¬ (7 : Int) = 9 from by decide, show ¬ ((7 : Int) = 4 ∨ (7 : Int) = 6) from by decide, show ¬ (7 : Int) = 8 from by decide, if_false, Bool.and_eq_true, sameAn_iff, idL_iff, List.length_map]
  constructor
  · rintro ⟨⟨h1, h2⟩, h3, h4⟩
    refine ⟨h1, fun i e e' z z' he he' hz hz' => ?_⟩
    obtain ⟨q1, q2, q3⟩ := h2 i _ _ (by rw [List.getElem?_map, he]; rfl) (by rw [List.getElem?_map, he']; rfl)
    exact ⟨q1, q2, q3, h4 i z z' hz hz'⟩
  · rintro ⟨h1, h2⟩
    refine ⟨⟨h1, fun i a b ha hb => ?_⟩, by omega, fun i z z' hz hz' => ?_⟩
    · rw [List.getElem?_map, Option.map_eq_some_iff] at ha hb
      obtain ⟨e, he, rfl⟩ := ha
      obtain ⟨e', he', rfl⟩ := hb
      have hl := (List.getElem?_eq_some_iff.1 he).1
      have hl' := (List.getElem?_eq_some_iff.1 he').1
      obtain ⟨q1, q2, q3, _⟩ := h2 i e e' es1[i] es2[i] he he' (List.getElem?_eq_getElem (by omega)) (List.getElem?_eq_getElem (by omega))
      exact ⟨q1, q2, q3⟩
    · have hl := (List.getElem?_eq_some_iff.1 hz).1
      have hl' := (List.getElem?_eq_some_iff.1 hz').1
      exact (h2 i t1.elems[i] t2.elems[i] z z' (List.getElem?_eq_getElem (by omega)) (List.getElem?_eq_getElem (by omega)) hz hz').2.2.2
theorem pk_of {K : Cfg} {s : Gs} {w : World} (ic : IC K s w) {t : Ty} {v : Value} {x : X} (h : RX K s w v t x) (k : t.kind = 7 ∨ t.kind = 9) : (t.n = 0 ∨ t.n = 1) ∧ ∃ c px, s.pk t.n = pt c ∧ Has w c (.cells #[.string (pth t.n), .string px] tPK) := by
  obtain ⟨i, v, _, q⟩ := (h.good (by omega)).sh
  have h0 := q.shape.n0 (by rcases k with k | k <;> rw [k] <;> simp [limitN])
  have h1 := q.shape.n1 (by rcases k with k | k <;> rw [k] <;> simp [limitN])
  have h2 : limitN K.D t.kind = 2 := by rcases k with k | k <;> rw [k] <;> simp [limitN]
  rw [h2] at h1
  have hn : t.n = 0 ∨ t.n = 1 := by omega
  obtain ⟨c, px, e1, e2⟩ := ic.pkg t.n hn
  exact ⟨hn, c, px, e1, e2⟩
theorem key_iff {s s' : List UInt8} {p p' : Int} (hp : p = 0 ∨ p = 1) (hp' : p' = 0 ∨ p' = 1) : (s == s' && (expo s || (pth p).toList == (pth p').toList)) = true ↔ keyOf s p = keyOf s' p' := by
  rw [← sameNm_iff]
  unfold sameNm
  simp only [Bool.and_eq_true, Bool.or_eq_true, beq_iff_eq]
  constructor
  · rintro ⟨h1, h2 | h2⟩
    · exact ⟨h1, .inr h2⟩
    · exact ⟨h1, .inl (pth_inj hp hp' h2)⟩
  · rintro ⟨h1, h2 | h2⟩
    · exact ⟨h1, .inr (by rw [h2])⟩
    · exact ⟨h1, .inl h2⟩
set_option maxHeartbeats 8000000 in
theorem id_struct {K : Cfg} {s : Gs} {w : World} {cb : Nat} {ign : Bool} {x y : X} {vx vy : Value} {t1 t2 : Ty} {a : Option Addr} (ih : ∀ z, dX z < dX x → IdG K s cb ign z) (ic : IC K s w) (hcb : Has w cb (.cells (cmc ign) tCM)) (hx : RX K s w vx t1 x) (hy : RX K s w vy t2 y) (hst : Stk K s w (dX x) (dX y) a) (k1 : t1.kind = 7) (k2 : t2.kind = 7) : IdT w cb vx vy a (idX (!ign) x y) := by
  obtain ⟨es1, ex1, l1, xe1⟩ := hx.ro.plain_of (by omega) (by omega)
  obtain ⟨es2, ex2, l2, xe2⟩ := hy.ro.plain_of (by omega) (by omega)
  obtain ⟨hn1, c1, px1, hpk1, hc1⟩ := pk_of ic hx (.inl k1)
  obtain ⟨hn2, c2, px2, hpk2, hc2⟩ := pk_of ic hy (.inl k2)
  have gd1 := hx.good (by omega)
  have gd2 := hy.good (by omega)
  have lg1 := hx.legal (by omega)
  have lg2 := hy.legal (by omega)
  have hlen : ∀ {t : Ty}, Good K.D t → t.elems.length ≤ 16777216 := fun {t} hg => by
    have h1 : ∀ l : List Ty, l.length ≤ wts l := fun l => by
      induction l with
      | nil => exact Nat.zero_le _
      | cons e r ih =>
        have := wt_pos e
        simp only [List.length_cons, wts]
        omega
    have := h1 t.elems
    have := wt_eq t
    have := hg.wt
    omega
  have hb1 := hlen gd1
  have hb2 := hlen gd2
  have hr := idX_struct (tags := !ign) k1 k2 l1 l2
  rw [← ex1, ← ex2] at hr
  obtain ⟨rt1, rt2⟩ := (⟨hx.rt, hy.rt⟩ : _ ∧ _)
  cases rt1 with
  | struct _ b1 fa1 fc1 ta1 tc1 vb1 vv1 tg1 _ r1 f1 _ m1 rq1 rs1 g1 =>
    cases rt2 with
    | struct _ b2 fa2 fc2 ta2 tc2 vb2 vv2 tg2 _ r2 f2 _ m2 rq2 rs2 g2 =>
      refine ⟨_, rfl, ?_⟩
      refine zst ?_
      refine WU.stp rfl rfl rfl (stp_call rfl (c_NumFields b1 _ _ _ _ _ _ w m1)) ?_
      rintro _ _ ⟨rfl, rfl⟩
      refine zst ?_
      refine WU.stp rfl rfl rfl (stp_call rfl (c_NumFields b2 _ _ _ _ _ _ w m2)) ?_
      rintro _ _ ⟨rfl, rfl⟩
      refine zst ?_
      by_cases hl : t1.elems.length = t2.elems.length
      · rw [show ((t1.elems.length : Int) == (t2.elems.length : Int)) = true by rw [hl]; exact beq_self_eq_true _]
        refine zst ?_
        refine W.loop (σ := Nat) (fun k => [(191, .int .i64 k), (190, .int .i64 t1.elems.length), (189, .slice fa1 t1.elems.length fc1), (19, pt b2), (18, pt b1), (3, .pointer a), (0, pt cb)])
          (fun k D' wk => D' = [] ∧ k ≤ t1.elems.length ∧ Ext w wk ∧ ∀ (i : Nat) e e' z z', i < k → t1.elems[i]? = some e → t2.elems[i]? = some e' → es1[i]? = some z → es2[i]? = some z' → SF (!ign) t1 t2 e e' z z')
          (fun k => t1.elems.length - k) 0 ⟨rfl, Nat.zero_le _, Ext.rfl' _, fun i _ _ _ _ h => by omega⟩ (by exact sub_of ⟨rfl, rfl, rfl, rfl, rfl, rfl, rfl, trivial⟩) ?_
        rintro k D' wk ⟨rfl, hk, xk, hI⟩
        refine zst ?_
        by_cases hlt : k < t1.elems.length
        · rw [show decide ((k : Int) < (t1.elems.length : Int)) = true by simpa using hlt]
          have he1 : t1.elems[k]? = some t1.elems[k] := List.getElem?_eq_getElem hlt
          have he2 : t2.elems[k]? = some t2.elems[k] := List.getElem?_eq_getElem (by omega)
          have hz1 : es1[k]? = some es1[k] := List.getElem?_eq_getElem (by omega)
          have hz2 : es2[k]? = some es2[k] := List.getElem?_eq_getElem (by omega)
          generalize t1.elems[k] = e1 at he1
          generalize t2.elems[k] = e2 at he2
          generalize es1[k] = z1 at hz1
          generalize es2[k] = z2 at hz2
          obtain ⟨rb1, rfl, _, hrc1⟩ := rq1.cell hlt
          obtain ⟨rb2, rfl, _, hrc2⟩ := rq2.cell (i := k) (by omega)
          obtain ⟨_, fv1, ft1⟩ := f1 k e1 he1
          obtain ⟨_, fv2, ft2⟩ := f2 k e2 he2
          rw [hpk1] at fv1
          rw [hpk2] at fv2
          have fv1k : Has wk (vb1 k) (.cells #[.int .i64 0, pt c1, .string e1.name, vv1 k, .int .u8 6, .bool e1.emb] 106) := fv1.ext' xk
          have fv2k : Has wk (vb2 k) (.cells #[.int .i64 0, pt c2, .string e2.name, vv2 k, .int .u8 6, .bool e2.emb] 106) := fv2.ext' xk
          have m1k := m1.ext' xk
          have m2k := m2.ext' xk
          have hfail : ¬ SF (!ign) t1 t2 e1 e2 z1 z2 → idX (!ign) x y = false := fun hn => by
            rw [Bool.eq_false_iff]
            exact fun h => hn ((hr.1 h).2 k e1 e2 z1 z2 he1 he2 hz1 hz2)
          refine zst ?_
          refine WU.yld rfl rfl rfl (yld_load_c rfl (xk.cell hrc1)) ?_
          refine zst ?_
          refine WU.yld rfl rfl rfl (yld_load_c rfl (xk.cell hrc2)) ?_
          refine zst ?_
          refine W.regD [(0, .q), (1, .q), (2, .q), (3, .q), (4, .q), (5, .q), (6, .q), (7, .q), (8, .q), (9, .q), (10, .q), (11, .q), (12, .q), (13, .q), (14, .q), (15, .q), (16, .q), (17, .q), (19, .q), (20, .q), (18, .l), (21, .l), (22, .q), (23, .q), (24, .q), (25, .q), (26, .q), (27, .q), (28, .q), (29, .q), (30, .q), (31, .q), (32, .q), (33, .q), (34, .q), (35, .q), (36, .q), (37, .q), (38, .q), (39, .l), (40, .q), (41, .q), (42, .q), (43, .q), (44, .q), (45, .q), (46, .q), (47, .q), (48, .q), (49, .q), (50, .q), (51, .q), (52, .q), (53, .q), (54, .q), (55, .l), (56, .q), (57, .q)] (by kernel_rfl) (by kernel_rfl) rfl ?_
          intro w1 x1 _
          have x01 := xk.trans x1
          have fv1' := fv1k.ext' x1
          have fv2' := fv2k.ext' x1
          have m1' := m1k.ext' x1
          have m2' := m2k.ext' x1
          have hcb1 := hcb.ext' x01
          refine zsd ?_
          have hasc : Asc e1.name := Ident.asc ((lg1.here.fld k1).id k _ (by unfold names; rw [List.getElem?_map, he1]; rfl))
          have hd1 : dX z1 < dX x := by rw [ex1]; exact dX_at hz1
          have hd2 : dX z2 < dX y := by rw [ex2]; exact dX_at hz2
          cases hq : (e1.emb == e2.emb)
          · have q2 : e1.emb ≠ e2.emb := by simpa using hq
            refine zsd ?_
            refine zst ?_
            refine fin1 (.inl rfl) rfl rfl ⟨?_, x01⟩
            rw [hfail fun h => q2 h.2.1]
          · have q2 : e1.emb = e2.emb := by simpa using hq
            refine zsd ?_
            cases ign
            · refine zsd ?_
              refine WD.stp rfl rfl rfl rfl (stp_call rfl (c_Tag b1 _ _ _ _ k _ _ tg1 _ w1 m1' (rs1.ext x01) hlt (by omega))) ?_
              rintro _ _ ⟨rfl, rfl⟩
              refine ⟨Ext.rfl' _, ?_⟩
              refine zsd ?_
              refine WD.stp rfl rfl rfl rfl (stp_call rfl (c_Tag b2 _ _ _ _ k _ _ tg2 _ w1 m2' (rs2.ext x01) (by omega) (by omega))) ?_
              rintro _ _ ⟨rfl, rfl⟩
              refine ⟨Ext.rfl' _, ?_⟩
              refine zsd ?_
              cases ht : ((tg1 k).toList == (tg2 k).toList)
              · refine zsd ?_
                refine zst ?_
                refine fin1 (.inl rfl) rfl rfl ⟨?_, x01⟩
                rw [hfail fun h => by
                  have := h.2.2.1 rfl
                  rw [← ft1, ← ft2] at this
                  rw [this] at ht
                  simp at ht]
              · have q3 : (!false) = true → e1.tag.toList = e2.tag.toList := fun _ => by rw [← ft1, ← ft2]; simpa using ht
                refine zsd ?_
                refine WD.stp rfl rfl rfl rfl (stp_call rfl (c_sameId (vb1 k) c1 c2 e1.name e2.name (pth t1.n) px1 (pth t2.n) px2 (vv1 k) 6 e1.emb w1 (ic.prp.ext x01) fv1' (hc1.ext' x01) (hc2.ext' x01) hasc)) ?_
                rintro _ w2 ⟨rfl, x2⟩
                refine ⟨x2, ?_⟩
                have x02 := x01.trans x2
                have fv1'' := fv1'.ext' x2
                have fv2'' := fv2'.ext' x2
                cases hs : (e1.name.toList == e2.name.toList && (expo e1.name.toList || (pth t1.n).toList == (pth t2.n).toList))
                · refine zsd ?_
                  refine zst ?_
                  refine fin1 (.inl rfl) rfl rfl ⟨?_, x02⟩
                  rw [hfail fun h => by
                    have := (key_iff hn1 hn2).2 h.1
                    rw [hs] at this
                    cases this]
                · have q1 := (key_iff hn1 hn2).1 hs
                  refine zsd ?_
                  refine WD.stp rfl rfl rfl rfl (stp_call rfl (ih z1 hd1 w2 (vv1 k) (vv2 k) e1 e2 z2 a (ic.ext x02) (hcb.ext' x02) ((TX.of ic (r1 k e1 he1) (gd1.el he1) (lg1.el k e1 he1) (xe1 k e1 z1 he1 hz1)).ext x02) ((TX.of ic (r2 k e2 he2) (gd2.el he2) (lg2.el k e2 he2) (xe2 k e2 z2 he2 hz2)).ext x02) ((hst.ext x02).le (by omega) (by omega)))) ?_
                  rintro _ w3 ⟨rfl, x3⟩
                  refine ⟨x3, ?_⟩
                  have x03 := x02.trans x3
                  cases hi : idX (!false) z1 z2
                  · refine zsd ?_
                    refine zst ?_
                    refine fin1 (.inl rfl) rfl rfl ⟨?_, x03⟩
                    rw [hfail fun h => by
                      have := h.2.2.2
                      rw [hi] at this
                      cases this]
                  · refine zsd ?_
                    refine zst ?_
                    refine ⟨k + 1, by omega, ⟨rfl, by omega, x03, fun i e e' z z' hik h1 h2 h3 h4 => ?_⟩, sub_of ⟨rfl, rfl, rfl, rfl, rfl, rfl, rfl, trivial⟩⟩
                    by_cases hik' : i = k
                    · subst hik'
                      rw [he1] at h1
                      rw [he2] at h2
                      rw [hz1] at h3
                      rw [hz2] at h4
                      cases h1
                      cases h2
                      cases h3
                      cases h4
                      exact ⟨q1, q2, q3, hi⟩
                    · exact hI i e e' z z' (by omega) h1 h2 h3 h4
            · have q3 : (!true) = true → e1.tag.toList = e2.tag.toList := fun h => by cases h
              refine zsd ?_
              refine WD.stp rfl rfl rfl rfl (stp_call rfl (c_sameId (vb1 k) c1 c2 e1.name e2.name (pth t1.n) px1 (pth t2.n) px2 (vv1 k) 6 e1.emb w1 (ic.prp.ext x01) fv1' (hc1.ext' x01) (hc2.ext' x01) hasc)) ?_
              rintro _ w2 ⟨rfl, x2⟩
              refine ⟨x2, ?_⟩
              have x02 := x01.trans x2
              have fv1'' := fv1'.ext' x2
              have fv2'' := fv2'.ext' x2
              cases hs : (e1.name.toList == e2.name.toList && (expo e1.name.toList || (pth t1.n).toList == (pth t2.n).toList))
              · refine zsd ?_
                refine zst ?_
                refine fin1 (.inl rfl) rfl rfl ⟨?_, x02⟩
                rw [hfail fun h => by
                  have := (key_iff hn1 hn2).2 h.1
                  rw [hs] at this
                  cases this]
              · have q1 := (key_iff hn1 hn2).1 hs
                refine zsd ?_
                refine WD.stp rfl rfl rfl rfl (stp_call rfl (ih z1 hd1 w2 (vv1 k) (vv2 k) e1 e2 z2 a (ic.ext x02) (hcb.ext' x02) ((TX.of ic (r1 k e1 he1) (gd1.el he1) (lg1.el k e1 he1) (xe1 k e1 z1 he1 hz1)).ext x02) ((TX.of ic (r2 k e2 he2) (gd2.el he2) (lg2.el k e2 he2) (xe2 k e2 z2 he2 hz2)).ext x02) ((hst.ext x02).le (by omega) (by omega)))) ?_
                rintro _ w3 ⟨rfl, x3⟩
                refine ⟨x3, ?_⟩
                have x03 := x02.trans x3
                cases hi : idX (!true) z1 z2
                · refine zsd ?_
                  refine zst ?_
                  refine fin1 (.inl rfl) rfl rfl ⟨?_, x03⟩
                  rw [hfail fun h => by
                    have := h.2.2.2
                    rw [hi] at this
                    cases this]
                · refine zsd ?_
                  refine zst ?_
                  refine ⟨k + 1, by omega, ⟨rfl, by omega, x03, fun i e e' z z' hik h1 h2 h3 h4 => ?_⟩, sub_of ⟨rfl, rfl, rfl, rfl, rfl, rfl, rfl, trivial⟩⟩
                  by_cases hik' : i = k
                  · subst hik'
                    rw [he1] at h1
                    rw [he2] at h2
                    rw [hz1] at h3
                    rw [hz2] at h4
                    cases h1
                    cases h2
                    cases h3
                    cases h4
                    exact ⟨q1, q2, q3, hi⟩
                  · exact hI i e e' z z' (by omega) h1 h2 h3 h4
        · rw [show decide ((k : Int) < (t1.elems.length : Int)) = false by simpa using hlt]
          refine zst ?_
          refine fin1 (.inl rfl) rfl rfl ⟨?_, xk⟩
          rw [show idX (!ign) x y = true from hr.2 ⟨hl, fun i e e' z z' h1 h2 h3 h4 => hI i e e' z z' (by have := (List.getElem?_eq_some_iff.1 h1).1; omega) h1 h2 h3 h4⟩]
      · rw [show ((t1.elems.length : Int) == (t2.elems.length : Int)) = false by rw [beq_eq_false_iff_ne]; omega]
        refine zst ?_
        refine fin1 (.inl rfl) rfl rfl ⟨?_, Ext.rfl' _⟩
        rw [show idX (!ign) x y = false from by
          rw [Bool.eq_false_iff]
          exact fun h => hl (hr.1 h).1]
    | _ => omega
  | _ => omega
end Go.Proofs.YtpiegpegjbmlkaaGreatDoor
namespace Go.Proofs.YtpiegpegjbmlkaaGreatDoor
open Go Go.Kd
set_option maxRecDepth 100000

/-- one value, one tree -/
theorem TX.same {K : Cfg} {s : Gs} {w : World} (ic : IC K s w) {v : Value} {t t' : Ty} {x x' : X} (h : TX K s w v t x) (h' : TX K s w v t' x') : x = x' := by
  have no : ∀ {t : Ty} {x : X}, TX K s w v t x → isAl K.D t = false → ∃ b, v = .iface (dynX x) (pt b) ∧ s.g b = some (gk t) ∧ Root K.D t x := fun {t x} h ha => by
    have hr := exp_root (unalias_end ha) h.ex
    obtain ⟨b, h1, _, h2⟩ := h.rt.rootv ic ha (h.rd) hr
    exact ⟨b, h1, h2, hr⟩
  have dn : ∀ x : X, dynX x ≠ tAL := fun x => by
    unfold dynX
    split
    · split <;> decide
    · unfold dynK
      repeat' split
      all_goals decide
  have al : ∀ {t : Ty} {x : X}, TX K s w v t x → isAl K.D t = true → ∃ b o1 o2 o3 T c y, v = .iface tAL (pt b) ∧ Has w b (.cells #[o1, o2, o3, .iface T (pt c)] tAB) ∧ RT K s w s.sl (.iface T (pt c)) y ∧ isAl K.D y = false ∧ Rdy K K.D.length y ∧ Root K.D y x := fun {t x} h ha => by
    have hk := isAl_kind ha
    obtain ⟨h0, h1, h2⟩ := h.rd hk
    have hel := List.getElem?_eq_getElem h1
    have hal : (K.D[t.n.toNat]).al = true := by rw [← isAl_n hk hel]; exact ha
    obtain ⟨b, ob, T, c, v0, y, e, k1, k2, k3, k4, k5, k6, k7⟩ := ic.dc.al_ hel h2 hal (h.rt.nam hk)
    refine ⟨b, _, _, _, T, c, y, e, k2, k4, k5, fun hy => ?_, exp_root ?_ h.ex⟩
    · obtain ⟨q0, q1⟩ := k7 hy
      exact ⟨q0, by omega, by omega⟩
    · rw [unalias_step ic.ok.sh hk hel hal, ← k6, unalias_step ic.ok.sh (tN_kind _) (by rw [tN_n, Int.toNat_natCast]; exact hel) hal]
  cases ha : isAl K.D t with
  | false =>
    obtain ⟨b, e1, e2, e3⟩ := no h ha
    cases ha' : isAl K.D t' with
    | false =>
      obtain ⟨b', f1, f2, f3⟩ := no h' ha'
      rw [e1] at f1
      obtain rfl : b = b' := by simpa using (Value.iface.inj f1).2
      rw [e2] at f2
      exact gk_root e3 f3 (Option.some.inj f2) (fun k => (h.rd k).1) (fun k => (h'.rd k).1)
    | true =>
      obtain ⟨b', _, _, _, T, c, y, f1, _⟩ := al h' ha'
      rw [e1] at f1
      exact absurd (Value.iface.inj f1).1 (dn x)
  | true =>
    obtain ⟨b, o1, o2, o3, T, c, y, e1, e2, e3, e4, e5, e6⟩ := al h ha
    cases ha' : isAl K.D t' with
    | false =>
      obtain ⟨b', f1, _⟩ := no h' ha'
      rw [e1] at f1
      exact absurd (Value.iface.inj f1).1.symm (dn x')
    | true =>
      obtain ⟨b', p1, p2, p3, T', c', y', f1, f2, f3, f4, f5, f6⟩ := al h' ha'
      rw [e1] at f1
      cases f1
      have e := e2.at_.symm.trans f2.at_
      simp only [Option.some.injEq, Obj.cells.injEq, and_true] at e
      have e7 := congrArg Array.toList e
      simp only [List.cons.injEq, and_true] at e7
      obtain ⟨_, _, _, e8⟩ := e7
      rw [← e8] at f3
      obtain ⟨d, g1, _, g2⟩ := e3.rootv ic e4 e5 e6
      obtain ⟨d', g1', _, g2'⟩ := f3.rootv ic f4 f5 f6
      rw [g1] at g1'
      obtain rfl : d = d' := by simpa using (Value.iface.inj g1').2
      rw [g2] at g2'
      exact gk_root e6 f6 (Option.some.inj g2') (fun k => (e5 k).1) (fun k => (f5 k).1)

abbrev tTP' : Nat := 167
/-- a tuple of variables of the types l -/
structure TupE (K : Cfg) (s : Gs) (w : World) (q : Value) (l : List Ty) (es : List X) (vb : Nat → Nat) (vv : Nat → Value) : Prop where
  tup : TupV w s.sl q l.length vb
  var : ∀ (i : Nat) e, l[i]? = some e → ∃ pk kd, VarV w (vb i) pk e.name (vv i) kd false
  tx : ∀ (i : Nat) e z, l[i]? = some e → es[i]? = some z → TX K s w (vv i) e z
  len : es.length = l.length
  sz : l.length ≤ 16777216
theorem RowQ.ext {w w' : World} (x : Ext w w') {p : Nat → Prop} {t : Nat} {a : Option Addr} {n : Nat} {f : Nat → Nat} (h : RowQ w p t a n f) : RowQ w' p t a n f := fun i hi => by
  obtain ⟨b, cs, h1, h2, h3, h4⟩ := h i hi
  exact ⟨b, cs, h1, h2, h3.ext' x, h4⟩
theorem TupV.ext {w w' : World} (x : Ext w w') {p : Nat → Prop} {q : Value} {n : Nat} {f : Nat → Nat} (h : TupV w p q n f) : TupV w' p q n f := by
  rcases h with h | ⟨b, a, c, h1, h2, h3, h4, h5⟩
  · exact .inl h
  · exact .inr ⟨b, a, c, h1, h2, h3, h4.ext' x, h5.ext x⟩
theorem TupE.ext {K : Cfg} {s : Gs} {w w' : World} (x : Ext w w') {q : Value} {l : List Ty} {es : List X} {vb : Nat → Nat} {vv : Nat → Value} (h : TupE K s w q l es vb vv) : TupE K s w' q l es vb vv := ⟨h.tup.ext x, fun i e he => by
  obtain ⟨pk, kd, h1⟩ := h.var i e he
  exact ⟨pk, kd, h1.ext' x⟩, fun i e z he hz => (h.tx i e z he hz).ext x, h.len, h.sz⟩
theorem c_TupLenV (q : Value) (n : Nat) (vb : Nat → Nat) (p : Nat → Prop) (w : World) (h : TupV w p q n vb) : Calls Tryz.prog 134 #[q] w (Ret fun r w' => r = .int .i64 n ∧ w = w') := by
  rcases h with ⟨rfl, rfl⟩ | ⟨b, a, c, rfl, _, _, h, _⟩
  · refine W.enter (args := [.pointer none]) Tryz.func134 rfl Tryz.ntmps134 rfl rfl ?_
    refine zst ?_
    exact fin1 (.inl rfl) rfl rfl ⟨rfl, rfl⟩
  · refine W.enter (args := [pt b]) Tryz.func134 rfl Tryz.ntmps134 rfl rfl ?_
    refine zst ?_
    exact fin1 (.inl rfl) rfl rfl ⟨rfl, rfl⟩
end Go.Proofs.YtpiegpegjbmlkaaGreatDoor
namespace Go.Proofs.YtpiegpegjbmlkaaGreatDoor
open Go Go.Kd
set_option maxRecDepth 100000

theorem TupV.ptr {w : World} {p : Nat → Prop} {q : Value} {n : Nat} {vb : Nat → Nat} (h : TupV w p q n vb) : ∃ oa, q = .pointer oa ∧ ∀ c, oa = some c → Pl w c.block := by
  rcases h with ⟨rfl, _⟩ | ⟨b, a, c, rfl, _, _, h, _⟩
  · exact ⟨none, rfl, fun c hc => by cases hc⟩
  · exact ⟨_, rfl, fun c hc => by cases hc; exact ⟨_, _, h.at_⟩⟩
theorem tup_same {K : Cfg} {s : Gs} {w : World} {ign : Bool} (ic : IC K s w) {q : Value} {l1 l2 : List Ty} {es1 es2 : List X} {vb1 vb2 : Nat → Nat} {vv1 vv2 : Nat → Value} (h1 : TupE K s w q l1 es1 vb1 vv1) (h2 : TupE K s w q l2 es2 vb2 vv2) : idL (!ign) es1 es2 = true := by
  have key : l1.length = l2.length ∧ ∀ i, i < l1.length → vb1 i = vb2 i := by
    rcases h1.tup with ⟨rfl, e1⟩ | ⟨b, a, c, rfl, n1, _, m1, r1⟩
    · rcases h2.tup with ⟨_, e2⟩ | ⟨b, a, c, e, _⟩
      · exact ⟨by omega, fun i hi => by omega⟩
      · cases e
    · rcases h2.tup with ⟨e, _⟩ | ⟨b', a', c', e, n2, _, m2, r2⟩
      · cases e
      · cases e
        have e := m1.at_.symm.trans m2.at_
        simp only [Option.some.injEq, Obj.cells.injEq, and_true] at e
        have e7 := congrArg Array.toList e
        simp only [List.cons.injEq, and_true, Value.slice.injEq] at e7
        obtain ⟨rfl, e8, _⟩ := e7
        refine ⟨e8, fun i hi => ?_⟩
        obtain ⟨g, cs, rfl, _, k1, k2⟩ := r1 i hi
        obtain ⟨g', cs', e9, _, k3, k4⟩ := r2 i (by omega)
        cases e9
        have e := k1.at_.symm.trans k3.at_
        simp only [Option.some.injEq, Obj.cells.injEq, and_true] at e
        subst e
        rw [k2] at k4
        simpa using k4
  rw [idL_iff]
  refine ⟨by rw [h1.len, h2.len, key.1], fun i z z' hz hz' => ?_⟩
  have hl := (List.getElem?_eq_some_iff.1 hz).1
  have hi : i < l1.length := by rw [← h1.len]; exact hl
  have he1 : l1[i]? = some l1[i] := List.getElem?_eq_getElem hi
  have he2 : l2[i]? = some (l2[i]'(by rw [← key.1]; exact hi)) := List.getElem?_eq_getElem _
  obtain ⟨pk1, kd1, v1⟩ := h1.var i _ he1
  obtain ⟨pk2, kd2, v2⟩ := h2.var i _ he2
  rw [key.2 i hi] at v1
  have e := v1.at_.symm.trans v2.at_
  simp only [Option.some.injEq, Obj.cells.injEq, and_true] at e
  have e7 := congrArg Array.toList e
  simp only [List.cons.injEq, and_true, true_and] at e7
  have hv : vv1 i = vv2 i := e7.2.2.1
  have t1 := h1.tx i _ z he1 hz
  have t2 := h2.tx i _ z' he2 hz'
  rw [hv] at t1
  have hzz := t1.same ic t2
  subst hzz
  exact idX_refl _ _ (t1.rt.wfx ic z _ _ t1.rd t1.gd t1.ex)
set_option maxHeartbeats 8000000 in
theorem c_idTup {K : Cfg} {s : Gs} {w : World} {cb : Nat} {ign : Bool} {q1 q2 : Value} {l1 l2 : List Ty} {es1 es2 : List X} {vb1 vb2 : Nat → Nat} {vv1 vv2 : Nat → Value} {a : Option Addr} (ih : ∀ z ∈ es1, IdG K s cb ign z) (ic : IC K s w) (hcb : Has w cb (.cells (cmc ign) tCM)) (h1 : TupE K s w q1 l1 es1 vb1 vv1) (h2 : TupE K s w q2 l2 es2 vb2 vv2) (hst : Stk K s w (dXs es1) (dXs es2) a) :
    Calls Tryz.prog 91 #[pt cb, .iface tTP' q1, .iface tTP' q2, .pointer a] w (Ret fun r w' => r = .bool (idL (!ign) es1 es2) ∧ Ext w w') := by
  obtain ⟨oa, ha, pa⟩ := h1.tup.ptr
  obtain ⟨ob, hb, pb⟩ := h2.tup.ptr
  subst ha hb
  refine W.enter (args := [pt cb, .iface tTP' (.pointer oa), .iface tTP' (.pointer ob), .pointer a]) Tryz.func91 rfl Tryz.ntmps91 rfl rfl ?_
  refine zst ?_
  refine WU.stp rfl rfl rfl (stp_call rfl (c_Unalias_no tTP' (.pointer oa) w rfl)) ?_
  rintro _ _ ⟨rfl, rfl⟩
  refine zst ?_
  refine WU.stp rfl rfl rfl (stp_call rfl (c_Unalias_no tTP' (.pointer ob) w rfl)) ?_
  rintro _ _ ⟨rfl, rfl⟩
  refine zst ?_
  refine WU.yld rfl rfl rfl (yld_eql_ifo (fun _ => inferInstance) (fun _ => inferInstance) rfl rfl pa pb) ?_
  by_cases heq : tTP' = tTP' ∧ oa = ob
  · rw [decide_eq_true heq]
    obtain ⟨_, rfl⟩ := heq
    refine zst ?_
    exact fin1 (.inl rfl) rfl rfl ⟨by rw [tup_same ic h1 h2], Ext.rfl' _⟩
  · rw [decide_eq_false heq]
    refine zst ?_
    refine WU.stp rfl rfl rfl (stp_call rfl (c_TupLenV (.pointer oa) l1.length vb1 _ w h1.tup)) ?_
    rintro _ _ ⟨rfl, rfl⟩
    refine zst ?_
    refine WU.stp rfl rfl rfl (stp_call rfl (c_TupLenV (.pointer ob) l2.length vb2 _ w h2.tup)) ?_
    rintro _ _ ⟨rfl, rfl⟩
    refine zst ?_
    by_cases hl : l1.length = l2.length
    · rw [show ((l1.length : Int) == (l2.length : Int)) = true by rw [hl]; exact beq_self_eq_true _]
      have hle : es1.length = es2.length := by rw [h1.len, h2.len, hl]
      have hsz := h1.sz
      refine zst ?_
      rcases h1.tup with ⟨e, n1⟩ | ⟨b1, a1, c1, e, n1, _, m1, r1⟩
      · cases e
        refine zst ?_
        refine fin1 (.inl rfl) rfl rfl ⟨?_, Ext.rfl' _⟩
        rw [show idL (!ign) es1 es2 = true from (idL_iff _ _ _).2 ⟨hle, fun i z z' hz _ => by
          have := (List.getElem?_eq_some_iff.1 hz).1
          rw [h1.len, n1] at this
          omega⟩]
      · cases e
        obtain ⟨b2, a2, c2, e, _, _, m2, r2⟩ := h2.tup.resolve_left fun k => by omega
        cases e
        refine zst ?_
        refine W.loop (σ := Nat) (fun k => [(303, .int .i64 k), (302, .int .i64 l1.length), (301, .slice a1 l1.length c1), (28, pt b2), (3, .pointer a), (0, pt cb)])
          (fun k D' wk => D' = [] ∧ k ≤ l1.length ∧ Ext w wk ∧ ∀ (i : Nat) z z', i < k → es1[i]? = some z → es2[i]? = some z' → idX (!ign) z z' = true)
          (fun k => l1.length - k) 0 ⟨rfl, Nat.zero_le _, Ext.rfl' _, fun i _ _ h => by omega⟩ (by exact sub_of ⟨rfl, rfl, rfl, rfl, rfl, rfl, trivial⟩) ?_
        rintro k D' wk ⟨rfl, hk, xk, hI⟩
        refine zst ?_
        by_cases hlt : k < l1.length
        · rw [show decide ((k : Int) < (l1.length : Int)) = true by simpa using hlt]
          have hk1 : k < es1.length := by rw [h1.len]; exact hlt
          have hk2 : k < es2.length := by omega
          have hz1 : es1[k]? = some es1[k] := List.getElem?_eq_getElem hk1
          have hz2 : es2[k]? = some es2[k] := List.getElem?_eq_getElem hk2
          have he1 : l1[k]? = some l1[k] := List.getElem?_eq_getElem hlt
          have he2 : l2[k]? = some l2[k] := List.getElem?_eq_getElem (by omega)
          generalize l1[k] = e1 at he1
          generalize l2[k] = e2 at he2
          generalize es1[k] = z1 at hz1
          generalize es2[k] = z2 at hz2
          obtain ⟨rb1, rfl, _, hrc1⟩ := r1.cell hlt
          obtain ⟨rb2, rfl, _, hrc2⟩ := r2.cell (i := k) (by omega)
          obtain ⟨pk1, kd1, fv1⟩ := h1.var k e1 he1
          obtain ⟨pk2, kd2, fv2⟩ := h2.var k e2 he2
          have fv1k : Has wk (vb1 k) (.cells #[.int .i64 0, pk1, .string e1.name, vv1 k, .int .u8 kd1, .bool false] 106) := fv1.ext' xk
          have fv2k : Has wk (vb2 k) (.cells #[.int .i64 0, pk2, .string e2.name, vv2 k, .int .u8 kd2, .bool false] 106) := fv2.ext' xk
          have m2k := m2.ext' xk
          refine zst ?_
          refine WU.yld rfl rfl rfl (yld_load_c rfl (xk.cell hrc1)) ?_
          refine zst ?_
          refine WU.yld rfl rfl rfl (yld_load_c rfl (xk.cell hrc2)) ?_
          refine zst ?_
          refine W.regD [(0, .q), (1, .q), (2, .q), (3, .q), (4, .q), (5, .q), (6, .q), (7, .q), (8, .q), (9, .q), (10, .q), (11, .q), (12, .l), (13, .q)] (by kernel_rfl) (by kernel_rfl) rfl ?_
          intro w1 x1 _
          have x01 := xk.trans x1
          have fv1' := fv1k.ext' x1
          have fv2' := fv2k.ext' x1
          refine zsd ?_
          refine WD.stp rfl rfl rfl rfl (stp_call rfl (ih z1 (List.mem_of_getElem? hz1) w1 (vv1 k) (vv2 k) e1 e2 z2 a (ic.ext x01) (hcb.ext' x01) ((h1.tx k e1 z1 he1 hz1).ext x01) ((h2.tx k e2 z2 he2 hz2).ext x01) ((hst.ext x01).le (dXs_at hz1) (dXs_at hz2)))) ?_
          rintro _ w2 ⟨rfl, x2⟩
          refine ⟨x2, ?_⟩
          have x02 := x01.trans x2
          cases hi : idX (!ign) z1 z2
          · refine zsd ?_
            refine zst ?_
            refine fin1 (.inl rfl) rfl rfl ⟨?_, x02⟩
            rw [show idL (!ign) es1 es2 = false from by
              rw [Bool.eq_false_iff]
              intro h
              have := ((idL_iff _ _ _).1 h).2 k z1 z2 hz1 hz2
              rw [hi] at this
              cases this]
          · refine zsd ?_
            refine zst ?_
            refine ⟨k + 1, by omega, ⟨rfl, by omega, x02, fun i z z' hik h3 h4 => ?_⟩, sub_of ⟨rfl, rfl, rfl, rfl, rfl, rfl, trivial⟩⟩
            by_cases hik' : i = k
            · subst hik'
              rw [hz1] at h3
              rw [hz2] at h4
              cases h3
              cases h4
              exact hi
            · exact hI i z z' (by omega) h3 h4
        · rw [show decide ((k : Int) < (l1.length : Int)) = false by simpa using hlt]
          refine zst ?_
          refine fin1 (.inl rfl) rfl rfl ⟨?_, xk⟩
          rw [show idL (!ign) es1 es2 = true from (idL_iff _ _ _).2 ⟨hle, fun i z z' h3 h4 => hI i z z' (by have := (List.getElem?_eq_some_iff.1 h3).1; rw [h1.len] at this; omega) h3 h4⟩]
    · rw [show ((l1.length : Int) == (l2.length : Int)) = false by rw [beq_eq_false_iff_ne]; omega]
      refine zst ?_
      refine fin1 (.inl rfl) rfl rfl ⟨?_, Ext.rfl' _⟩
      rw [show idL (!ign) es1 es2 = false from by
        rw [Bool.eq_false_iff]
        exact fun h => hl (by have := ((idL_iff _ _ _).1 h).1; rw [h1.len, h2.len] at this; exact this)]
end Go.Proofs.YtpiegpegjbmlkaaGreatDoor
namespace Go.Proofs.YtpiegpegjbmlkaaGreatDoor
open Go Go.Kd
set_option maxRecDepth 100000

theorem idX_func {tags : Bool} {t1 t2 : Ty} {es1 es2 : List X} (k1 : t1.kind = 8) (k2 : t2.kind = 8) (l1 : es1.length = t1.elems.length) (l2 : es2.length = t2.elems.length) (p1 : 0 ≤ t1.count) (p2 : 0 ≤ t2.count) (q1 : t1.count ≤ t1.elems.length) (q2 : t2.count ≤ t2.elems.length) :
    idX tags (.node t1.kind (nN t1) (cN t1) (vN t1) (anN t1) es1) (.node t2.kind (nN t2) (cN t2) (vN t2) (anN t2) es2) = (t1.vr == t2.vr && (idL tags (es1.take t1.count.toNat) (es2.take t2.count.toNat) && idL tags (es1.drop t1.count.toNat) (es2.drop t2.count.toNat))) := by
  rw [Bool.eq_iff_iff, idX_node]
  unfold nN cN vN anN
  simp only [k1, k2, beq_self_eq_true, Bool.true_and, if_true, show ¬ (8 : Int) = 9 from by decide, show ¬ ((8 : Int) = 4 ∨ (8 : Int) = 6) from by decide, show ¬ (8 : Int) = 7 from by decide, if_false, Bool.and_eq_true, beq_iff_eq, idL_iff, List.length_take, List.length_drop, sameAn, and_true]
  constructor
  · rintro ⟨⟨h1, h2⟩, h3, h4⟩
    rw [← h1]
    refine ⟨h2, ⟨by omega, fun i x y hx hy => ?_⟩, by omega, fun i x y hx hy => ?_⟩
    · rw [List.getElem?_take] at hx hy
      split at hx
      · rename_i hlt
        rw [if_pos hlt] at hy
        exact h4 i x y hx hy
      · cases hx
    · rw [List.getElem?_drop] at hx hy
      exact h4 _ x y hx hy
  · rintro ⟨h2, ⟨h3, h4⟩, h5, h6⟩
    have hc : t1.count = t2.count := by omega
    refine ⟨⟨hc, h2⟩, by omega, fun i x y hx hy => ?_⟩
    by_cases hi : i < t1.count.toNat
    · exact h4 i x y (by rw [List.getElem?_take, if_pos hi]; exact hx) (by rw [List.getElem?_take, if_pos (by omega)]; exact hy)
    · exact h6 (i - t1.count.toNat) x y (by rw [List.getElem?_drop, show t1.count.toNat + (i - t1.count.toNat) = i by omega]; exact hx) (by rw [List.getElem?_drop, show t2.count.toNat + (i - t1.count.toNat) = i by omega]; exact hy)
theorem dXs_take : ∀ (l : List X) (n : Nat), dXs (l.take n) ≤ dXs l
  | [], n => by simp
  | x :: r, 0 => by simp [dXs]
  | x :: r, n + 1 => by
    have := dXs_take r n
    simp only [List.take_succ_cons, dXs]
    omega
theorem dXs_drop : ∀ (l : List X) (n : Nat), dXs (l.drop n) ≤ dXs l
  | [], n => by simp
  | x :: r, 0 => by simp
  | x :: r, n + 1 => by
    have := dXs_drop r n
    simp only [List.drop_succ_cons, dXs]
    omega
/-- the two tuples of a function type -/
theorem RX.func {K : Cfg} {s : Gs} {w : World} {v : Value} {t : Ty} {x : X} (h : RX K s w v t x) (ic : IC K s w) (k : t.kind = 8) : ∃ b ps rs es vb vv, v = .iface tSP (pt b) ∧ SigB w b ps rs t.vr ∧ x = .node t.kind (nN t) (cN t) (vN t) (anN t) es ∧ es.length = t.elems.length ∧ 0 ≤ t.count ∧ t.count ≤ t.elems.length ∧
    TupE K s w ps (t.elems.take t.count.toNat) (es.take t.count.toNat) vb vv ∧ TupE K s w rs (t.elems.drop t.count.toNat) (es.drop t.count.toNat) (fun i => vb (t.count.toNat + i)) (fun i => vv (t.count.toNat + i)) := by
  obtain ⟨es, ex, hl, hx⟩ := h.ro.plain_of (by omega) (by omega)
  have gd := h.good (by omega)
  have lg := h.legal (by omega)
  obtain ⟨i, v', _, q⟩ := gd.sh
  have c0 := q.shape.c0 (.inl k)
  have c1 := q.shape.c1 (.inl k)
  have hsz : t.elems.length ≤ 16777216 := by
    have h1 : ∀ l : List Ty, l.length ≤ wts l := fun l => by
      induction l with
      | nil => exact Nat.zero_le _
      | cons e r ih =>
        have := wt_pos e
        simp only [List.length_cons, wts]
        omega
    have := h1 t.elems
    have := wt_eq t
    have := gd.wt
    omega
  have rt := h.rt
  cases rt with
  | func _ b ps rs vb vv _ r f _ m tp tr g =>
    have lt : (t.elems.take t.count.toNat).length = t.count.toNat := by rw [List.length_take]; omega
    have ld : (t.elems.drop t.count.toNat).length = t.elems.length - t.count.toNat := List.length_drop ..
    refine ⟨b, ps, rs, es, vb, vv, rfl, m, ex, hl, c0, c1, ⟨by rw [lt]; exact tp, fun i e he => ?_, fun i e z he hz => ?_, by rw [List.length_take, List.length_take, hl], by omega⟩, ⟨by rw [ld]; exact tr, fun i e he => ?_, fun i e z he hz => ?_, by rw [List.length_drop, List.length_drop, hl], by omega⟩⟩
    · rw [List.getElem?_take] at he
      split at he
      · obtain ⟨pk, kd, _, q⟩ := f i e he
        exact ⟨pk, kd, q⟩
      · cases he
    · rw [List.getElem?_take] at he hz
      split at he
      · rename_i hlt
        rw [if_pos hlt] at hz
        exact .of ic (r i e he) (gd.el he) (lg.el i e he) (hx i e z he hz)
      · cases he
    · rw [List.getElem?_drop] at he
      obtain ⟨pk, kd, _, q⟩ := f _ e he
      exact ⟨pk, kd, q⟩
    · rw [List.getElem?_drop] at he hz
      exact .of ic (r _ e he) (gd.el he) (lg.el _ e he) (hx _ e z he hz)
  | _ => omega
set_option maxHeartbeats 2000000 in
theorem id_func {K : Cfg} {s : Gs} {w : World} {cb : Nat} {ign : Bool} {x y : X} {vx vy : Value} {t1 t2 : Ty} {a : Option Addr} (ih : ∀ z, dX z < dX x → IdG K s cb ign z) (ic : IC K s w) (hcb : Has w cb (.cells (cmc ign) tCM)) (hx : RX K s w vx t1 x) (hy : RX K s w vy t2 y) (hst : Stk K s w (dX x) (dX y) a) (k1 : t1.kind = 8) (k2 : t2.kind = 8) : IdT w cb vx vy a (idX (!ign) x y) := by
  obtain ⟨b1, ps1, rs1, es1, vb1, vv1, rfl, m1, ex1, l1, p1, q1, tp1, tr1⟩ := hx.func ic k1
  obtain ⟨b2, ps2, rs2, es2, vb2, vv2, rfl, m2, ex2, l2, p2, q2, tp2, tr2⟩ := hy.func ic k2
  have hr := idX_func (tags := !ign) k1 k2 l1 l2 p1 p2 q1 q2
  rw [← ex1, ← ex2] at hr
  rw [hr]
  have d1 : dX x = dXs es1 + 1 := by rw [ex1]; simp only [dX]
  have d2 : dX y = dXs es2 + 1 := by rw [ex2]; simp only [dX]
  have mem : ∀ z ∈ es1, dX z < dX x := fun z hz => by
    obtain ⟨i, hi⟩ := List.getElem?_of_mem hz
    rw [ex1]; exact dX_at hi
  have a1 := dXs_take es1 t1.count.toNat
  have a2 := dXs_take es2 t2.count.toNat
  have a3 := dXs_drop es1 t1.count.toNat
  have a4 := dXs_drop es2 t2.count.toNat
  obtain ⟨rc1, m1⟩ := m1
  obtain ⟨rc2, m2⟩ := m2
  refine ⟨_, rfl, ?_⟩
  refine zst ?_
  refine W.regD [(0, .q), (1, .q), (2, .q), (3, .q), (4, .q), (5, .q), (6, .q), (7, .q), (8, .q), (9, .q), (10, .q), (11, .q), (12, .q), (13, .q), (14, .q), (15, .q), (16, .q), (17, .q), (18, .q), (19, .l), (20, .q), (21, .q), (22, .q), (23, .q), (24, .q), (25, .q), (26, .q), (27, .q), (28, .q), (29, .q), (30, .q), (31, .l), (32, .q), (33, .q)] (by kernel_rfl) (by kernel_rfl) rfl ?_
  intro w1 x1 _
  have m1' := m1.ext' x1
  have m2' := m2.ext' x1
  refine zsd ?_
  cases hv : t1.vr == t2.vr
  · refine zsd ?_
    refine zst ?_
    exact fin1 (.inl rfl) rfl rfl ⟨rfl, x1⟩
  · refine zsd ?_
    refine WD.stp rfl rfl rfl rfl (stp_call rfl (c_idTup (fun z hz => ih z (mem z (List.mem_of_mem_take hz))) (ic.ext x1) (hcb.ext' x1) (tp1.ext x1) (tp2.ext x1) ((hst.ext x1).le (by omega) (by omega)))) ?_
    rintro _ w2 ⟨rfl, x2⟩
    refine ⟨x2, ?_⟩
    have x12 := x1.trans x2
    have m1'' := m1'.ext' x2
    have m2'' := m2'.ext' x2
    cases hp : idL (!ign) (es1.take t1.count.toNat) (es2.take t2.count.toNat)
    · refine zsd ?_
      refine zst ?_
      exact fin1 (.inl rfl) rfl rfl ⟨rfl, x12⟩
    · refine zsd ?_
      refine WD.stp rfl rfl rfl rfl (stp_call rfl (c_idTup (fun z hz => ih z (mem z (List.mem_of_mem_drop hz))) (ic.ext x12) (hcb.ext' x12) (tr1.ext x12) (tr2.ext x12) ((hst.ext x12).le (by omega) (by omega)))) ?_
      rintro _ w3 ⟨rfl, x3⟩
      refine ⟨x3, ?_⟩
      refine zsd ?_
      refine zst ?_
      exact fin1 (.inl rfl) rfl rfl ⟨rfl, x12.trans x3⟩
end Go.Proofs.YtpiegpegjbmlkaaGreatDoor
namespace Go.Proofs.YtpiegpegjbmlkaaGreatDoor
open Go Go.Kd
set_option maxRecDepth 100000

inductive StkN (K : Cfg) (s : Gs) (w : World) (dx dy : Nat) : Nat → Option Addr → Prop
  | nil : StkN K s w dx dy 0 none
  | cons (n p xb yb : Nat) (a : Option Addr) (ux uy : Ty) (x y : X) : Has w p (.cells (prc xb yb a) tPR) → Pl w xb → Pl w yb → s.g xb = some ux → s.g yb = some uy → Root K.D ux x → Root K.D uy y → dx < dX x → dy < dX y → StkN K s w dx dy n a → StkN K s w dx dy (n + 1) (some ⟨p, 0, none⟩)
theorem Stk.num {K : Cfg} {s : Gs} {w : World} {dx dy : Nat} {a : Option Addr} (h : Stk K s w dx dy a) : ∃ n, StkN K s w dx dy n a := by
  induction h with
  | nil => exact ⟨0, .nil⟩
  | cons p xb yb a ux uy x y h1 h2 h3 h4 h5 h6 h7 h8 h9 _ ih =>
    obtain ⟨n, hn⟩ := ih
    exact ⟨n + 1, .cons n p xb yb a ux uy x y h1 h2 h3 h4 h5 h6 h7 h8 h9 hn⟩
theorem StkN.ext {K : Cfg} {s : Gs} {w w' : World} (e : Ext w w') {dx dy n : Nat} {a : Option Addr} (h : StkN K s w dx dy n a) : StkN K s w' dx dy n a := by
  induction h with
  | nil => exact .nil
  | cons n p xb yb a ux uy x y h1 h2 h3 h4 h5 h6 h7 h8 h9 _ ih => exact .cons n p xb yb a ux uy x y (h1.ext' e) (h2.ext' e) (h3.ext' e) h4 h5 h6 h7 h8 h9 ih
theorem MthO.ext {K : Cfg} {s : Gs} {w w' : World} (e : Ext w w') {p : Nat → Prop} {m : Mt} {fb : Nat} (h : MthO K s w p m fb) : MthO K s w' p m fb := h.tr (.sta (l := 0) (.of_ext e) (by omega) p)
/-- what lies behind an interface -/
structure IfX (K : Cfg) (s : Gs) (w : World) (b : Nat) (x : X) (tb : Nat) (ms : List Mt) (fb : Nat → Nat) (ms0 : List Mt) (es : List X) : Prop where
  pl : Pl w b
  ib : IfT w b (pt tb)
  tsb : ∃ a c v, Has w tb (.cells #[.bool false, .slice a ms.length c, v, .bool false] tTS) ∧ AllQ w all' v ∧ RowQ w all' tFN a ms.length fb
  mth : ∀ (i : Nat) m, ms[i]? = some m → MthO K s w s.sl m (fb i)
  srt : Srtd ms
  pm : ms.Perm ms0
  ex : x = .node 9 0 0 false (anM ms0) es
  len : es.length = ms0.length
  tr : ∀ (i : Nat) m z, ms0[i]? = some m → es[i]? = some z → Exp K.D m.fn z
  gd : ∀ m ∈ ms0, Good K.D m.fn
  lg : ∀ m ∈ ms0, Legal K.D m.fn
  sz : ms.length ≤ 100000000
theorem RX.ifc {K : Cfg} {s : Gs} {w : World} (ic : IC K s w) {v : Value} {t : Ty} {x : X} (h : RX K s w v t x) (hi : isIf t) : ∃ b tb ms fb ms0 es, v = .iface tPI (pt b) ∧ s.g b = some t ∧ IfX K s w b x tb ms fb ms0 es := by
  obtain ⟨b, h1, h2, h3⟩ := h.rt.lit2 hi.lit
  rw [hi.dyn] at h1
  obtain ⟨tb, ms, fb, ht⟩ := ic.ts h3 hi
  obtain ⟨ms0, hm, hp⟩ := ht.im
  have hmN := hm.under hi.under_norm
  cases h.ro with
  | basic n k0 _ k1 => rcases hi with k | ⟨_, k⟩ <;> first | omega | exact absurd k k1
  | error k0 k1 => rcases hi with k | ⟨_, k⟩ <;> omega
  | named k0 => rcases hi with k | ⟨k, _⟩ <;> omega
  | plain es k2 k8 => rcases hi with k | ⟨k, _⟩ <;> omega
  | iface ms' es _ km kl ke =>
    obtain rfl := IM.det hm km
    exact ⟨b, tb, ms, fb, _, es, h1, h3, h2, ht.ib, ht.tsb, ht.mth, ht.srt, hp, rfl, kl, ke, IM_good ic.ok hmN h.gd, legal_IM ic.vd ic.ok hmN h.gd h.lg, by
      obtain ⟨i, v', q1, q2⟩ := h.gd.sh
      have h4 := IM_len ic.ok.sh hmN q1 q2
      have h5 := h.gd.wt
      have h6 := ic.ok.wt
      have h7 := hp.length_eq
      omega⟩
set_option maxHeartbeats 8000000 in
theorem id_iface {K : Cfg} {s : Gs} {w : World} {cb : Nat} {ign : Bool} {x y : X} {vx vy : Value} {t1 t2 : Ty} {a : Option Addr} (ih : ∀ z, dX z < dX x → IdG K s cb ign z) (ic : IC K s w) (hcb : Has w cb (.cells (cmc ign) tCM)) (hx : RX K s w vx t1 x) (hy : RX K s w vy t2 y) (hst : Stk K s w (dX x) (dX y) a) (k1 : isIf t1) (k2 : isIf t2) : IdT w cb vx vy a (idX (!ign) x y) := by
  obtain ⟨b1, tb1, ms1, fb1, ms01, es1, rfl, g1, f1⟩ := hx.ifc ic k1
  obtain ⟨b2, tb2, ms2, fb2, ms02, es2, rfl, g2, f2⟩ := hy.ifc ic k2
  have hr := idX_iface (tags := !ign) f1.len f2.len f1.tr f2.tr f1.pm f2.pm f1.srt f2.srt
  rw [← f1.ex, ← f2.ex] at hr
  obtain ⟨sa1, sc1, sv1, ht1, ha1, hr1⟩ := f1.tsb
  obtain ⟨sa2, sc2, sv2, ht2, ha2, hr2⟩ := f2.tsb
  refine ⟨_, rfl, ?_⟩
  refine zst ?_
  refine WU.stp rfl rfl rfl (stp_call rfl (c_typeSet_done b1 tb1 w f1.ib)) ?_
  rintro _ _ ⟨rfl, rfl⟩
  refine zst ?_
  refine WU.stp rfl rfl rfl (stp_call rfl (c_typeSet_done b2 tb2 w f2.ib)) ?_
  rintro _ _ ⟨rfl, rfl⟩
  refine zst ?_
  refine W.regD [(0, .q), (1, .q), (2, .q), (3, .q), (4, .q), (5, .q), (6, .q), (7, .q), (8, .q)] (by kernel_rfl) (by kernel_rfl) rfl ?_
  intro w1 x1 _
  have ht1a := ht1.ext' x1
  have ht2a := ht2.ext' x1
  refine zsd ?_
  refine zst ?_
  refine W.regD [(0, .q), (1, .q), (2, .q), (3, .q), (4, .q), (5, .q), (6, .q), (7, .q), (8, .l), (9, .q)] (by kernel_rfl) (by kernel_rfl) rfl ?_
  intro w2 x2 _
  have x02 := x1.trans x2
  have ht1b := ht1.ext' x02
  have ht2b := ht2.ext' x02
  refine zsd ?_
  refine WD.stp rfl rfl rfl rfl (stp_call rfl (c_equal sv1 sv2 w2 (ha1.all.ext x02) (ha2.all.ext x02))) ?_
  rintro _ _ ⟨rfl, rfl⟩
  refine ⟨Ext.rfl' _, ?_⟩
  refine zsd ?_
  refine zst ?_
  have hsz1 := f1.sz
  have hsz2 := f2.sz
  by_cases hl : ms1.length = ms2.length
  · rw [show ((ms1.length : Int) == (ms2.length : Int)) = true by rw [hl]; exact beq_self_eq_true _]
    refine zst ?_
    refine WU.stp rfl rfl rfl (by first | exact stp_box rfl rfl | exact stp_box1 rfl rfl) ?_
    rintro _ w3 ⟨qb, rfl, n3⟩
    have x03 := x02.trans n3.ext
    have hq3 : Has w3 qb (.cells (prc b1 b2 a) tPR) := n3.has
    refine zst ?_
    obtain ⟨len, hsn⟩ := (hst.ext x03).num
    refine W.loop (σ := Nat × Option Addr) (fun st => [(3, .pointer st.2), (51, pt qb), (45, pt b2), (44, pt b1), (49, .slice sa1 ms1.length sc1), (50, .slice sa2 ms2.length sc2), (0, pt cb)])
      (fun st D' wk => D' = [] ∧ Ext w3 wk ∧ StkN K s wk (dX x) (dX y) st.1 st.2)
      (fun st => st.1) (len, a) ⟨rfl, Ext.rfl' _, hsn⟩ (by exact sub_of ⟨rfl, rfl, rfl, rfl, rfl, rfl, rfl, trivial⟩) ?_
    rintro ⟨n, a'⟩ D' wk ⟨rfl, xk, hn⟩
    have x0k := x03.trans xk
    have hqk := hq3.ext' xk
    cases hn with
    | cons n p xb yb a'' ux uy X Y q1 q2 q3 q4 q5 q6 q7 q8 q9 hn =>
      have hgk : ∀ {t : Ty}, isIf t → gk t = t := fun {t} hi => by unfold gk; rw [if_neg hi.lit.1, if_neg hi.lit.2]
      have hne : ¬ (xb = b1 ∧ yb = b2) := fun h => by
        rw [h.1, g1] at q4
        cases q4
        have := q6.det hx.ro
        subst this
        omega
      have hne' : ¬ (xb = b2 ∧ yb = b1) := fun h => by
        rw [h.1, g2] at q4
        cases q4
        rw [h.2, g1] at q5
        cases q5
        have e1 := q6.det hy.ro
        have e2 := q7.det hx.ro
        subst e1 e2
        omega
      refine zst ?_
      refine WU.stp rfl rfl rfl (stp_call rfl (c_pair p qb xb yb b1 b2 a'' a wk q1 hqk q2 q3 (f1.pl.ext' x0k) (f2.pl.ext' x0k) hne hne')) ?_
      rintro _ w4 ⟨rfl, x4⟩
      have q1' := q1.ext' x4
      refine zst ?_
      exact ⟨(n, a''), by show n < n + 1; omega, ⟨rfl, xk.trans x4, hn.ext x4⟩, sub_of ⟨rfl, rfl, rfl, rfl, rfl, rfl, rfl, trivial⟩⟩
    | nil =>
      refine zst ?_
      refine W.loop (σ := Nat) (fun k => [(468, .int .i64 k), (467, .int .i64 ms1.length), (466, .slice sa1 ms1.length sc1), (50, .slice sa2 ms2.length sc2), (51, pt qb), (0, pt cb)])
        (fun k D' wj => D' = [] ∧ k ≤ ms1.length ∧ Ext w wj ∧ Has wj qb (.cells (prc b1 b2 a) tPR) ∧ ∀ (i : Nat) m m', i < k → ms1[i]? = some m → ms2[i]? = some m' → keyM m = keyM m' ∧ ∀ z z', Exp K.D m.fn z → Exp K.D m'.fn z' → idX (!ign) z z' = true)
        (fun k => ms1.length - k) 0 ⟨rfl, Nat.zero_le _, x0k, hqk, fun i _ _ h => by omega⟩ (by exact sub_of ⟨rfl, rfl, rfl, rfl, rfl, rfl, trivial⟩) ?_
      rintro k D' wj ⟨rfl, hk, xj, hqj, hI⟩
      refine zst ?_
      by_cases hlt : k < ms1.length
      · rw [show decide ((k : Int) < (ms1.length : Int)) = true by simpa using hlt]
        have hm1 : ms1[k]? = some ms1[k] := List.getElem?_eq_getElem hlt
        have hm2 : ms2[k]? = some (ms2[k]'(by omega)) := List.getElem?_eq_getElem _
        generalize ms1[k] = m1 at hm1
        generalize ms2[k]'(by omega) = m2 at hm2
        obtain ⟨rb1, rfl, _, hrc1⟩ := hr1.cell hlt
        obtain ⟨rb2, rfl, _, hrc2⟩ := hr2.cell (i := k) (by omega)
        have mem1 := f1.pm.mem_iff.1 (List.mem_of_getElem? hm1)
        have mem2 := f2.pm.mem_iff.1 (List.mem_of_getElem? hm2)
        obtain ⟨i1, z1, hz1, he1⟩ := iface_trees f1.len f1.tr mem1
        obtain ⟨i2, z2, hz2, he2⟩ := iface_trees f2.len f2.tr mem2
        have d1 : dX z1 < dX x := by rw [f1.ex]; exact dX_at hz1
        have d2 : dX z2 < dX y := by rw [f2.ex]; exact dX_at hz2
        obtain ⟨pk1, sv1', ok1, _, fv1, rt1, _, id1, pq1, nz1⟩ := f1.mth k m1 hm1
        obtain ⟨pk2, sv2', ok2, _, fv2, rt2, _, id2, pq2, nz2⟩ := f2.mth k m2 hm2
        have fv1k : FuncV wj (fb1 k) pk1 m1.name sv1' := fv1.ext' xj
        have fv2k : FuncV wj (fb2 k) pk2 m2.name sv2' := fv2.ext' xj
        have hfail : ¬ (keyM m1 = keyM m2 ∧ idX (!ign) z1 z2 = true) → idX (!ign) x y = false := fun hn => by
          rw [Bool.eq_false_iff]
          intro h
          obtain ⟨h1, h2⟩ := (hr.1 h).2 k m1 m2 hm1 hm2
          exact hn ⟨h1, h2 z1 z2 he1 he2⟩
        have pz : ∀ n : Int, (pth n).size = 1 := fun n => by unfold pth; split <;> rfl
        replace nz1 : m1.name.size ≤ 268435456 := nz1
        replace nz2 : m2.name.size ≤ 268435456 := nz2
        refine zst ?_
        refine WU.yld rfl rfl rfl (yld_load_c rfl (xj.cell hrc1)) ?_
        refine zst ?_
        refine WU.yld rfl rfl rfl (yld_load_c rfl (xj.cell hrc2)) ?_
        refine zst ?_
        refine W.regD [(0, .q), (1, .q), (2, .q), (4, .q), (5, .q), (6, .q), (3, .l), (7, .l), (8, .q), (9, .q), (10, .q), (11, .q), (12, .q), (13, .q), (14, .q), (15, .q), (16, .q), (17, .q), (18, .q), (19, .q), (20, .q), (21, .q), (22, .l), (23, .q), (24, .q)] (by kernel_rfl) (by kernel_rfl) rfl ?_
        intro w5 x5 _
        have x05 := xj.trans x5
        refine zsd ?_
        refine WD.stp rfl rfl rfl rfl (stp_call rfl (c_Id (fb1 k) pk1 m1.name (pth m1.pkg) sv1' w5 (ic.prp.ext x05) (FuncV.obj (fv1k.ext' x5)) (ok1.pkv (ic.pkg.ext x05) pq1) id1.asc (by rw [pz]; omega))) ?_
        rintro _ w6 ⟨⟨s1, rfl, hs1⟩, x6⟩
        refine ⟨x6, ?_⟩
        have x06 := x05.trans x6
        refine zsd ?_
        refine WD.stp rfl rfl rfl rfl (stp_call rfl (c_Id (fb2 k) pk2 m2.name (pth m2.pkg) sv2' w6 (ic.prp.ext x06) (FuncV.obj ((fv2k.ext' x5).ext' x6)) (ok2.pkv (ic.pkg.ext x06) pq2) id2.asc (by rw [pz]; omega))) ?_
        rintro _ w7 ⟨⟨s2, rfl, hs2⟩, x7⟩
        refine ⟨x7, ?_⟩
        have x07 := x06.trans x7
        have fv1' : Has w7 (fb1 k) (.cells #[.int .i64 0, pk1, .string m1.name, sv1', .bool false, .bool false] 204) := ((fv1k.ext' x5).ext' x6).ext' x7
        have fv2' : Has w7 (fb2 k) (.cells #[.int .i64 0, pk2, .string m2.name, sv2', .bool false, .bool false] 204) := ((fv2k.ext' x5).ext' x6).ext' x7
        have hq7 := ((hqj.ext' x5).ext' x6).ext' x7
        refine zsd ?_
        cases hs : (s1.toList == s2.toList)
        · refine zsd ?_
          refine zst ?_
          refine fin1 (.inl rfl) rfl rfl ⟨?_, x07⟩
          rw [hfail fun h => by
            have := (idS_key id1 id2 pq1 pq2).2 h.1
            rw [← hs1, ← hs2] at this
            rw [this] at hs
            simp at hs]
        · have hkey : keyM m1 = keyM m2 := (idS_key id1 id2 pq1 pq2).1 (by rw [← hs1, ← hs2]; simpa using hs)
          refine zsd ?_
          refine WD.stp rfl rfl rfl rfl (stp_call rfl (ih z1 d1 w7 sv1' sv2' m1.fn m2.fn z2 (some ⟨qb, 0, none⟩) (ic.ext x07) (hcb.ext' x07) ((TX.of ic rt1 (f1.gd _ mem1) (f1.lg _ mem1) he1).ext x07) ((TX.of ic rt2 (f2.gd _ mem2) (f2.lg _ mem2) he2).ext x07)
            (.cons _ _ qb b1 b2 a t1 t2 x y hq7 (f1.pl.ext' x07) (f2.pl.ext' x07) g1 g2 hx.ro hy.ro d1 d2 ((hst.ext x07).le (by omega) (by omega))))) ?_
          rintro _ w8 ⟨rfl, x8⟩
          refine ⟨x8, ?_⟩
          have x08 := x07.trans x8
          cases hi : idX (!ign) z1 z2
          · refine zsd ?_
            refine zst ?_
            refine fin1 (.inl rfl) rfl rfl ⟨?_, x08⟩
            rw [hfail fun h => by
              have := h.2
              rw [hi] at this
              cases this]
          · refine zsd ?_
            refine zst ?_
            refine ⟨k + 1, by omega, ⟨rfl, by omega, x08, hq7.ext' x8, fun i m m' hik h3 h4 => ?_⟩, sub_of ⟨rfl, rfl, rfl, rfl, rfl, rfl, trivial⟩⟩
            by_cases hik' : i = k
            · subst hik'
              rw [hm1] at h3
              rw [hm2] at h4
              cases h3
              cases h4
              exact ⟨hkey, fun z z' hz hz' => by rw [Exp.det hz he1, Exp.det hz' he2]; exact hi⟩
            · exact hI i m m' (by omega) h3 h4
      · rw [show decide ((k : Int) < (ms1.length : Int)) = false by simpa using hlt]
        refine zst ?_
        refine fin1 (.inl rfl) rfl rfl ⟨?_, xj⟩
        rw [show idX (!ign) x y = true from hr.2 ⟨hl, fun i m m' h3 h4 => hI i m m' (by have := (List.getElem?_eq_some_iff.1 h3).1; omega) h3 h4⟩]
  · rw [show ((ms1.length : Int) == (ms2.length : Int)) = false by rw [beq_eq_false_iff_ne]; omega]
    refine zst ?_
    refine fin1 (.inl rfl) rfl rfl ⟨?_, x02⟩
    rw [show idX (!ign) x y = false from by
      rw [Bool.eq_false_iff]
      exact fun h => hl (hr.1 h).1]
end Go.Proofs.YtpiegpegjbmlkaaGreatDoor
namespace Go.Proofs.YtpiegpegjbmlkaaGreatDoor
open Go Go.Kd
set_option maxRecDepth 100000

theorem dynX_mem (x : X) : litT (dynX x) ∨ dynX x = tNP := by
  unfold litT
  unfold dynX
  split
  · split
    · exact .inr rfl
    · exact .inl (.inl rfl)
  · unfold dynK
    repeat' split
    all_goals first
      | exact .inl (by decide)
      | exact .inr (by decide)
theorem dyn_basic {y : Ty} {n : Int} (h3 : n = (if y.n = 18 then 7 else if y.n = 19 then 4 else y.n)) (h1 : y.n ≠ 20) : dynX (.leaf 0 n) = 109 := by
  have h20 : n ≠ 20 := by
    rw [h3]
    split
    · omega
    split <;> omega
  show (if (0 : Int) = 1 ∨ n = 20 then tNP else _) = _
  rw [if_neg (by omega)]
theorem dyn_nm (n : Int) : dynX (.leaf 1 n) = tNP := by
  show (if (1 : Int) = 1 ∨ n = 20 then tNP else 109) = tNP
  rw [if_pos (.inl rfl)]
theorem dynK_ba (k : Int) : dynK k ≠ 109 := by
  unfold dynK
  repeat' split
  all_goals decide
theorem dynK_inj {k k' : Int} (h1 : 2 ≤ k) (h2 : k ≤ 8) (h3 : 2 ≤ k') (h4 : k' ≤ 8) (h : dynK k = dynK k') : k = k' := by
  rcases (show k = 2 ∨ k = 3 ∨ k = 4 ∨ k = 5 ∨ k = 6 ∨ k = 7 ∨ k = 8 by omega) with rfl | rfl | rfl | rfl | rfl | rfl | rfl <;>
  rcases (show k' = 2 ∨ k' = 3 ∨ k' = 4 ∨ k' = 5 ∨ k' = 6 ∨ k' = 7 ∨ k' = 8 by omega) with rfl | rfl | rfl | rfl | rfl | rfl | rfl <;>
  first
    | rfl
    | exact absurd h (by decide)
theorem dynK_pi {k : Int} (h1 : 2 ≤ k) (h2 : k ≤ 8) : dynK k ≠ dynK 9 := by
  rcases (show k = 2 ∨ k = 3 ∨ k = 4 ∨ k = 5 ∨ k = 6 ∨ k = 7 ∨ k = 8 by omega) with rfl | rfl | rfl | rfl | rfl | rfl | rfl <;> decide
theorem c_identical {K : Cfg} {s : Gs} {cb : Nat} {ign : Bool} : ∀ (d : Nat) (x : X), dX x < d → IdG K s cb ign x := by
  intro d
  induction d with
  | zero => intro x h; omega
  | succ d ihd =>
    intro x hd
    have ih : ∀ z, dX z < dX x → IdG K s cb ign z := fun z hz => ihd z (by omega)
    refine id_main fun w vx vy t1 t2 y a ic hcb r1 r2 hst => ?_
    by_cases he : dynX x = dynX y
    · have d9 : ∀ an es, dynX (.node 9 0 0 false an es) = tPI := fun _ _ => rfl
      have q1 := r1.ro
      have q2 := r2.ro
      cases q1 with
      | basic n h0 h1 h2 h3 =>
        have hb := dyn_basic h3 h1
        cases q2 with
        | basic n' k0 k1 k2 k3 => exact id_basic r1.rt r2.rt h0 h1 h2 h3 k0 k1 k2 k3
        | error => rw [hb] at he; exact absurd he (by decide)
        | named => rw [hb, dyn_nm] at he; exact absurd he (by decide)
        | plain => rw [hb] at he; exact absurd he.symm (dynK_ba _)
        | iface => rw [hb] at he; exact absurd he.symm (dynK_ba _)
      | error h0 h1 =>
        have hb : dynX (.leaf 0 20) = tNP := rfl
        exact id_named ic r1 r2 hb (he.symm.trans hb) (.leaf _ _)
      | named hk =>
        have hb : dynX (.leaf 1 t1.n) = tNP := dyn_nm _
        exact id_named ic r1 r2 hb (he.symm.trans hb) (.leaf _ _)
      | plain es p2 p8 pl pe =>
        have hk : t1.kind = t2.kind := by
          cases q2 with
          | basic n' k0 k1 k2 k3 => rw [dyn_basic k3 k1] at he; exact absurd he (dynK_ba _)
          | error => exact absurd he (dynK_ne _)
          | named => exact absurd (he.trans (dyn_nm _)) (dynK_ne _)
          | plain es' p2' p8' => exact dynK_inj p2 p8 p2' p8' he
          | iface => exact absurd he (dynK_pi p2 p8)
        rcases (show t1.kind = 2 ∨ t1.kind = 3 ∨ t1.kind = 4 ∨ t1.kind = 5 ∨ t1.kind = 6 ∨ t1.kind = 7 ∨ t1.kind = 8 by omega) with h | h | h | h | h | h | h
        · exact id_ptr ih ic hcb r1 r2 hst h (by omega)
        · exact id_slice ih ic hcb r1 r2 hst h (by omega)
        · exact id_array ih ic hcb r1 r2 hst h (by omega)
        · exact id_map ih ic hcb r1 r2 hst h (by omega)
        · exact id_chan ih ic hcb r1 r2 hst h (by omega)
        · exact id_struct ih ic hcb r1 r2 hst h (by omega)
        · exact id_func ih ic hcb r1 r2 hst h (by omega)
      | iface ms es hi hm hl hx =>
        have hi2 : isIf t2 := by
          cases q2 with
          | basic n' k0 k1 k2 k3 => rw [dyn_basic k3 k1] at he; exact absurd he (dynK_ba _)
          | error => exact absurd he (dynK_ne _)
          | named => exact absurd (he.trans (dyn_nm _)) (dynK_ne _)
          | plain es' p2' p8' => exact absurd he.symm (dynK_pi p2' p8')
          | iface _ _ h => exact h
        exact id_iface ih ic hcb r1 r2 hst hi hi2
    · obtain ⟨b1, e1, _, _⟩ := r1.rt.rootv ic r1.al r1.rd r1.ro
      obtain ⟨b2, e2, _, _⟩ := r2.rt.rootv ic r2.al r2.rd r2.ro
      subst e1 e2
      rw [show idX (!ign) x y = false from by
        rw [Bool.eq_false_iff]
        exact fun h => he (idX_dyn h)]
      refine id_ne (dynX_mem x) ?_ ?_
      · cases h : Nat.beq (dynX y) (dynX x)
        · rfl
        · exact absurd (Nat.eq_of_beq_eq_true h).symm he
      · rcases dynX_mem y with h | h
        · exact h.ne.1
        · rw [h]; rfl
theorem c_gIdentical {K : Cfg} {s : Gs} {w : World} {vx vy : Value} {tx ty : Ty} {x y : X} (ic : IC K s w) (hx : TX K s w vx tx x) (hy : TX K s w vy ty y) : Calls Tryz.prog 56 #[vx, vy] w (Ret fun r w' => r = .bool (idX true x y) ∧ Ext w w') := by
  refine W.enter (args := [vx, vy]) Tryz.func56 rfl Tryz.ntmps56 rfl rfl ?_
  refine zst ?_
  refine WU.stp rfl rfl rfl stp_alloc ?_
  rintro _ w1 ⟨cb, rfl, n1⟩
  have hcb : Has w1 cb (.cells (cmc false) tCM) := n1.has
  refine zst ?_
  refine WU.stp rfl rfl rfl (stp_call rfl (c_identical (K := K) (s := s) (cb := cb) (ign := false) _ x (Nat.lt_succ_self _) w1 vx vy tx ty y none (ic.ext n1.ext) hcb (hx.ext n1.ext) (hy.ext n1.ext) (.nil _ _))) ?_
  rintro _ w2 ⟨rfl, x2⟩
  refine zst ?_
  exact fin1 (.inl rfl) rfl rfl ⟨rfl, n1.ext.trans x2⟩
end Go.Proofs.YtpiegpegjbmlkaaGreatDoor
namespace Go.Proofs.YtpiegpegjbmlkaaGreatDoor
open Go Go.Kd
set_option maxRecDepth 100000

set_option maxHeartbeats 2000000 in
theorem c_iIdentical {D : List De} {t u : Ty} {x y : X} {a : Option Addr} {cp : Nat} {a1 a2 : Option Addr} {c1 c2 : Nat} {w : World} (hp : Prp w) (hV : ValidD D) (hT : ValidT D t) (hU : ValidT D u) (hwd : wtD D ≤ 16777216) (hwt : wt t ≤ 16777216) (hwu : wt u ≤ 16777216) (hx : Exp D t x) (hy : Exp D u y)
    (hd : DsV w (fun b => b < w.heap.size) (.slice a D.length cp) D) (ht : TysV w (fun b => b < w.heap.size) a1 c1 t.elems) (hu : TysV w (fun b => b < w.heap.size) a2 c2 u.elems) :
    Calls Tryz.prog 36 #[.slice a D.length cp, .agg (tyc t a1 c1).toArray, .agg (tyc u a2 c2).toArray] w (Ret fun r w' => r = .bool (idX true x y) ∧ WfX x ∧ WfX y ∧ Ext w w') := by
  refine W.enter (args := [.slice a D.length cp, .agg (tyc t a1 c1).toArray, .agg (tyc u a2 c2).toArray]) Tryz.func36 rfl Tryz.ntmps36 rfl rfl ?_
  refine zst ?_
  refine WU.stp rfl rfl rfl (by first | exact stp_box rfl rfl | exact stp_box1 rfl rfl) ?_
  rintro _ w1 ⟨b4, rfl, n1⟩
  refine zst ?_
  have ib4 : Has w1 b4 (.cells (tyc t a1 c1).toArray 26) := n1.has
  refine WU.stp rfl rfl rfl (by first | exact stp_box rfl rfl | exact stp_box1 rfl rfl) ?_
  rintro _ w2 ⟨b5, rfl, n2⟩
  have ib5 : Has w2 b5 (.cells (tyc u a2 c2).toArray 26) := n2.has
  have x02 := n1.ext.trans n2.ext
  have z02 := x02.size
  have jb4 := ib4.ext' n2.ext
  refine zst ?_
  refine WU.stp rfl rfl rfl (stp_call rfl (c_build' (hp.ext x02) hV hwd (hd.ext x02) fun b hb => by omega)) ?_
  rintro _ w3 ⟨K, s, bb, rfl, rfl, hKN, x3, hB⟩
  have z3 := x3.size
  refine zst ?_
  obtain ⟨F, hFd⟩ : ∃ F : World → Prop, ∀ W, F W ↔ (Has W b4 (.cells (tyc t a1 c1).toArray 26) ∧ Has W b5 (.cells (tyc u a2 c2).toArray 26)) := ⟨fun W => (Has W b4 (.cells (tyc t a1 c1).toArray 26) ∧ Has W b5 (.cells (tyc u a2 c2).toArray 26)), fun _ => Iff.rfl⟩
  refine W.regR (R := fun a b => F a → F b) (fun _ h => h) (fun _ _ _ h k x => k (h x)) [(0, .q), (1, .q), (3, .q), (4, .q), (2, .l), (5, .l), (6, .l), (7, .q)] (by kernel_rfl) (by kernel_rfl) rfl ?_
  intro w4 x4 _
  have x24 := x3.trans x4
  have hF : F w4 := (hFd _).2 ⟨jb4.ext' x24, ib5.ext' x24⟩
  have hB4 := hB.ext x4
  have z4 := x4.size
  (repeat (first
      | refine WR.nilk ?_
      | refine WR.nil ?_
      | refine WR.yld (fun _ h => h) rfl rfl rfl rfl (fun w' hx => by obtain ⟨i1, i2⟩ := (hFd _).1 (hx hF); first | exact zyl | (exact by first | exact yld_load_cells rfl (Cells.has i1) | exact yld_load_cells rfl (Cells.has i2)) | exact yld_indexAddr_arr rfl rfl (by omega)) ?_
      | refine WR.skip rfl rfl rfl rfl ?_))
  refine WR.stp rfl rfl rfl rfl (stp_call rfl (c_of hB4 (p := fun b => b < w.heap.size) (cs := tyc t a1 c1) (t := t) ((TyV.of_tys ht).ext (x02.trans x24)) (fun b hb => ⟨by omega, by omega⟩) ⟨true, hT.sh⟩ hT.lg (by show _ ≤ 268435456; omega))) ?_
  rintro _ w5 ⟨s5, hg5, st5, hB5, rt5, T5, rb5, rfl⟩
  have hF : F w5 := (hFd _).2 ⟨Has.sta st5 ((hFd _).1 hF).1, Has.sta st5 ((hFd _).1 hF).2⟩
  refine ⟨fun _ => hF, ?_⟩
  (repeat (first
      | refine WR.nilk ?_
      | refine WR.nil ?_
      | refine WR.yld (fun _ h => h) rfl rfl rfl rfl (fun w' hx => by obtain ⟨i1, i2⟩ := (hFd _).1 (hx hF); first | exact zyl | (exact by first | exact yld_load_cells rfl (Cells.has i1) | exact yld_load_cells rfl (Cells.has i2)) | exact yld_indexAddr_arr rfl rfl (by omega)) ?_
      | refine WR.skip rfl rfl rfl rfl ?_))
  have x25 : Ext w2 w5 := ext_sta x24 (by omega) st5
  have z5 := x25.size
  refine WR.stp rfl rfl rfl rfl (stp_call rfl (c_of hB5 (p := fun b => b < w.heap.size) (cs := tyc u a2 c2) (t := u) ((TyV.of_tys hu).ext (x02.trans x25)) (fun b hb => ⟨by omega, by omega⟩) ⟨true, hU.sh⟩ hU.lg (by show _ ≤ 268435456; omega))) ?_
  rintro _ w6 ⟨s6, hg6, st6, hB6, rt6, T6, rb6, rfl⟩
  have hF : F w6 := (hFd _).2 ⟨Has.sta st6 ((hFd _).1 hF).1, Has.sta st6 ((hFd _).1 hF).2⟩
  refine ⟨fun _ => hF, ?_⟩
  (repeat (first
      | refine WR.nilk ?_
      | refine WR.nil ?_
      | refine WR.yld (fun _ h => h) rfl rfl rfl rfl (fun w' hx => by obtain ⟨i1, i2⟩ := (hFd _).1 (hx hF); first | exact zyl | (exact by first | exact yld_load_cells rfl (Cells.has i1) | exact yld_load_cells rfl (Cells.has i2)) | exact yld_indexAddr_arr rfl rfl (by omega)) ?_
      | refine WR.skip rfl rfl rfl rfl ?_))
  have rt5' := RT.gle hg6 (rt5.sta st6 (by omega))
  have x26 : Ext w2 w6 := ext_sta x25 (by omega) st6
  have tx1 := TX.of hB6.ic rt5' ⟨⟨_, _, Nat.le_refl _, hT.sh⟩, hwt⟩ hT.lg hx
  have tx2 := TX.of hB6.ic rt6 ⟨⟨_, _, Nat.le_refl _, hU.sh⟩, hwu⟩ hU.lg hy
  refine WR.stp rfl rfl rfl rfl (stp_call rfl (c_gIdentical hB6.ic tx1 tx2)) ?_
  rintro _ w7 ⟨rfl, x7⟩
  have hF : F w7 := (hFd _).2 ⟨((hFd _).1 hF).1.ext' x7, ((hFd _).1 hF).2.ext' x7⟩
  refine ⟨fun _ => hF, ?_⟩
  (repeat (first
      | refine WR.nilk ?_
      | refine WR.nil ?_
      | refine WR.yld (fun _ h => h) rfl rfl rfl rfl (fun w' hx => by obtain ⟨i1, i2⟩ := (hFd _).1 (hx hF); first | exact zyl | (exact by first | exact yld_load_cells rfl (Cells.has i1) | exact yld_load_cells rfl (Cells.has i2)) | exact yld_indexAddr_arr rfl rfl (by omega)) ?_
      | refine WR.skip rfl rfl rfl rfl ?_))
  refine zst ?_
  exact fin1 (.inl rfl) rfl rfl ⟨rfl, tx1.rt.wfx hB6.ic x _ _ tx1.rd tx1.gd hx, tx2.rt.wfx hB6.ic y _ _ tx2.rd tx2.gd hy, (x02.trans x26).trans x7⟩
end Go.Proofs.YtpiegpegjbmlkaaGreatDoor
namespace Go.Kd

/-- an operation of a drawn region: its number, where its result goes, what holds of the result from then on; B: the new blocks that it made for the result -/
structure Tsk where
  i : Nat
  d : Nat
  o : Oper
  B : Value → Nat → Prop
  F : Value → World → Prop
def AllT (p : Tsk → Prop) : List Tsk → Prop
  | [] => True
  | t :: T => p t ∧ AllT p T
theorem AllT.mem {p : Tsk → Prop} : ∀ {T : List Tsk}, AllT p T → ∀ t ∈ T, p t
  | [], _, _, h => by cases h
  | _ :: _, h, t, ht => by
    rcases List.mem_cons.1 ht with rfl | ht
    · exact h.1
    · exact AllT.mem h.2 t ht
def nodupB : List Nat → Bool
  | [] => true
  | a :: l => !l.contains a && nodupB l
theorem eq_of_nodupB {f : Tsk → Nat} : ∀ {T : List Tsk}, nodupB (T.map f) = true → ∀ t ∈ T, ∀ t' ∈ T, f t = f t' → t = t'
  | [], _, _, h, _, _, _ => by cases h
  | a :: T, h, t, ht, t', ht', he => by
    simp only [List.map_cons, nodupB, Bool.and_eq_true, Bool.not_eq_true', List.contains_eq_mem, decide_eq_false_iff_not] at h
    rcases List.mem_cons.1 ht with h1 | h1 <;> rcases List.mem_cons.1 ht' with h2 | h2
    · rw [h1, h2]
    · exact absurd (List.mem_map.2 ⟨t', h2, by rw [← h1]; exact he.symm⟩) h.1
    · exact absurd (List.mem_map.2 ⟨t, h1, by rw [← h2]; exact he⟩) h.1
    · exact eq_of_nodupB h.2 t h1 t' h2 he
/-- what is to be shown behind them -/
def ContT (w : World) : (Env → Prop) → List Tsk → List (Nat → Prop) → Env → Prop
  | K, [], _, e => K e
  | K, t :: T, acc, e => ∀ v, t.F v w → (∀ q ∈ acc, ∀ b, q b → ¬ t.B v b) → ContT w (fun e' => K ((t.d, v) :: e')) T (t.B v :: acc) e
/-- whatever order is drawn: those of the list are the ones that come -/
def freeOk (ops : Array Oper) (target : Array Bool) : Nat → List Nat → Array Bool → Bool
  | 0, _, L => L == target
  | m + 1, rem, L => !(Region.ready .any ops L).isEmpty && (Region.ready .any ops L).all fun i => rem.contains i && freeOk ops target m (rem.erase i) (L.setIfInBounds i true)
theorem ContT.use {w : World} {e' : Env} (T0 : List Tsk) (hd : ∀ t ∈ T0, ∃ v, lk e' t.d = some v ∧ t.F v w) (hS : ∀ t ∈ T0, ∀ t' ∈ T0, t.d ≠ t'.d → ∀ v v', lk e' t.d = some v → lk e' t'.d = some v' → ∀ b, t.B v b → ¬ t'.B v' b) :
    ∀ (T : List Tsk) (K : Env → Prop) (acc : List (Nat → Prop)) (e : Env), (∀ t ∈ T, t ∈ T0) → nodupB (T.map (·.d)) = true → (∀ q ∈ acc, ∃ t ∈ T0, ∃ u, q = t.B u ∧ lk e' t.d = some u ∧ t.d ∉ T.map (·.d)) → (∀ i u, lk e i = some u → lk e' i = some u) → ContT w K T acc e → ∃ e1, (∀ i u, lk e1 i = some u → lk e' i = some u) ∧ K e1
  | [], K, acc, e, _, _, _, he, h => ⟨e, he, h⟩
  | t :: T, K, acc, e, hT, hn, ha, he, h => by
    have ht0 := hT t (List.mem_cons_self ..)
    obtain ⟨v, hv, hF⟩ := hd t ht0
    simp only [List.map_cons, nodupB, Bool.and_eq_true, Bool.not_eq_true', List.contains_eq_mem, decide_eq_false_iff_not] at hn
    obtain ⟨e1, h1, h2⟩ := ContT.use T0 hd hS T (fun e' => K ((t.d, v) :: e')) _ e (fun t' ht' => hT t' (List.mem_cons_of_mem _ ht')) hn.2 (fun q hq => by
      rcases List.mem_cons.1 hq with rfl | hq
      · exact ⟨t, ht0, v, rfl, hv, hn.1⟩
      · obtain ⟨r, q1, u, q2, q3, q4⟩ := ha q hq
        exact ⟨r, q1, u, q2, q3, fun hm => q4 (List.mem_cons_of_mem _ hm)⟩) he (h v hF fun q hq b hb => by
      obtain ⟨r, q1, u, rfl, q3, q4⟩ := ha q hq
      exact hS r q1 t ht0 (fun hd => q4 (by rw [hd]; exact List.mem_cons_self ..)) u v q3 hv b hb)
    refine ⟨(t.d, v) :: e1, fun i u hiu => ?_, h2⟩
    rw [lk_cons] at hiu
    split at hiu
    · rename_i hi
      rw [← hi, ← hiu]; exact hv
    · exact h1 i u hiu
section
variable {P : Program} {n : Nat} {ops : List Oper} {Q : Post} {D : List Deferred} {e : Env} {w : World}
theorem WT.sub {L : Array Bool} {k : Nat} {e' : Env} (hs : ∀ i v, lk e i = some v → lk e' i = some v) (h : WT P n ops Q L k D e w) : WT P n ops Q L k D e' w := ⟨fun hcl a ha => h.out hcl a (ha.sub hs)⟩
theorem WT.free (T : List Tsk) (k : Nat) {m : Nat} {L0 : Array Bool} (L1 : Array Bool) (hkm : (k + T.length == m) = true) (hok : freeOk ops.toArray L1 T.length (T.map (·.i)) L0 = true) (hni : nodupB (T.map (·.i)) = true) (hnd : nodupB (T.map (·.d)) = true)
    (hi : AllT (fun t => ops[t.i]? = some t.o ∧ t.o.dst = some t.d ∧ Nat.blt t.d n = true ∧ wn ops e t.o.guard = some true ∧ lk e t.d = none) T)
    (hs : AllT (fun t => ∀ w', Ext w w' → Stp P e t.o w' (fun v w'' => Ext w' w'' ∧ t.F v w'' ∧ ∀ b, t.B v b → w'.heap.size ≤ b)) T)
    (hm : AllT (fun t => (∀ v w1 w2, Ext w1 w2 → t.F v w1 → t.F v w2) ∧ ∀ v w1, t.F v w1 → ∀ b, t.B v b → b < w1.heap.size) T)
    (hk : ∀ w', Ext w w' → ContT w' (fun e' => WT P n ops Q L1 k D e' w') T [] e) : WT P n ops Q L0 m D e w := by
  obtain rfl : k + T.length = m := by simpa using hkm
  have hi := hi.mem
  have hs := hs.mem
  have hm := hm.mem
  have uI := eq_of_nodupB (f := (·.i)) hni
  have uD := eq_of_nodupB (f := (·.d)) hnd
  have main : ∀ (m : Nat) (rem : List Nat) (L : Array Bool) (e' : Env) (w' : World), freeOk ops.toArray L1 m rem L = true → rem.length = m → (∀ i ∈ rem, ∃ t ∈ T, t.i = i) →
      (∀ t ∈ T, t.i ∈ rem ∨ ∃ v, lk e' t.d = some v ∧ t.F v w') → (∀ t ∈ T, ∀ t' ∈ T, t.i ∉ rem → t'.i ∉ rem → t.d ≠ t'.d → ∀ v v', lk e' t.d = some v → lk e' t'.d = some v' → ∀ b, t.B v b → ¬ t'.B v' b) →
      (∀ i v, lk e i = some v → lk e' i = some v) → Ext w w' → WT P n ops Q L (k + m) D e' w' := by
    intro m
    induction m with
    | zero =>
      intro rem L e' w' h1 h2 _ h4 hS h5 hx
      obtain rfl : rem = [] := List.length_eq_zero_iff.1 h2
      obtain rfl : L = L1 := by simpa [freeOk] using h1
      obtain ⟨e1, q1, q2⟩ := ContT.use T (fun t ht => (h4 t ht).resolve_left (by simp)) (fun t ht t' ht' => hS t ht t' ht' (by simp) (by simp)) T _ [] e (fun _ h => h) hnd (fun u hu => absurd hu List.not_mem_nil) h5 (hk w' hx)
      exact q2.sub q1
    | succ m ih =>
      intro rem L e' w' h1 h2 h3 h4 hS h5 hx
      unfold freeOk at h1
      simp only [Bool.and_eq_true, Bool.not_eq_true', List.all_eq_true, List.isEmpty_eq_false_iff] at h1
      obtain ⟨hne, hall⟩ := h1
      refine ⟨fun hcl a ha => ⟨fun h0 => absurd h0 hne, fun i hir => ?_⟩⟩
      obtain ⟨hc, hf⟩ := hall i hir
      have hmem : i ∈ rem := by simpa using hc
      obtain ⟨t, ht, rfl⟩ := h3 i hmem
      obtain ⟨q1, q2, q3, q4, q5⟩ := hi t ht
      have q1' : ops.toArray[t.i]? = some t.o := by simpa using q1
      have ha0 : Fr n D e a := ha.sub h5
      unfold wpOp
      simp only [q1']
      rw [wn_spec q4 ha0, if_pos rfl]
      refine .inl (upon_of_stp ha0 (hs t ht w' hx) fun v w'' ⟨hx', hF, hfr⟩ => ⟨.inl hx', ?_⟩)
      have hp : Fr n D ((t.d, v) :: e') (a.put t.o.dst v) := by rw [q2]; exact ha.put (by simpa [Nat.blt_eq] using q3) v
      have old : ∀ t' ∈ T, t'.i ∉ rem.erase t.i → t'.i ≠ t.i → t'.i ∉ rem := fun t' _ h hne hm' => h ((List.mem_erase_of_ne hne).2 hm')
      have oth : ∀ t' ∈ T, t'.i ≠ t.i → ∀ u, lk ((t.d, v) :: e') t'.d = some u → lk e' t'.d = some u := fun t' ht' hne u h => by
        rwa [lk_cons, if_neg fun hd => hne (by rw [uD t ht t' ht' hd])] at h
      have new : ∀ t' ∈ T, t'.i ∉ rem.erase t.i → t'.i ≠ t.i → ∀ u, lk ((t.d, v) :: e') t'.d = some u → ∀ b, t'.B u b → ¬ t.B v b := fun t' ht' hr hne u hu b hb hb' => by
        have h6 := oth t' ht' hne u hu
        obtain ⟨u', h7, h8⟩ := (h4 t' ht').resolve_left (old t' ht' hr hne)
        rw [h6] at h7
        cases h7
        have := (hm t' ht').2 u w' h8 b hb
        have := hfr b hb'
        omega
      refine (ih (rem.erase t.i) (L.setIfInBounds t.i true) ((t.d, v) :: e') w'' hf (by rw [List.length_erase_of_mem hmem, h2]; rfl) (fun i hi' => h3 i (List.mem_of_mem_erase hi')) (fun t' ht' => ?_) (fun t1 ht1 t2 ht2 r1 r2 hne v1 v2 l1 l2 => ?_) (fun i u hiu => ?_) (hx.trans hx')).out (hcl.step hir) _ hp
      · by_cases he : t'.i = t.i
        · obtain rfl := uI t' ht' t ht he
          exact .inr ⟨v, by rw [lk_cons, if_pos rfl], hF⟩
        · rcases h4 t' ht' with h | ⟨u, h6, h7⟩
          · exact .inl ((List.mem_erase_of_ne he).2 h)
          · refine .inr ⟨u, ?_, (hm t' ht').1 u w' w'' hx' h7⟩
            rw [lk_cons, if_neg fun hd => he (by rw [uD t ht t' ht' hd])]
            exact h6
      · by_cases e1 : t1.i = t.i
        · obtain rfl := uI t1 ht1 t ht e1
          have e2 : t2.i ≠ t1.i := fun h => hne (by rw [uI t2 ht2 t1 ht1 h])
          rw [lk_cons, if_pos rfl] at l1
          cases l1
          exact fun b hb hb' => new t2 ht2 r2 e2 v2 l2 b hb' hb
        · by_cases e2 : t2.i = t.i
          · obtain rfl := uI t2 ht2 t ht e2
            rw [lk_cons, if_pos rfl] at l2
            cases l2
            exact fun b => new t1 ht1 r1 e1 v1 l1 b
          · exact hS t1 ht1 t2 ht2 (old t1 ht1 r1 e1) (old t2 ht2 r2 e2) hne v1 v2 (oth t1 ht1 e1 v1 l1) (oth t2 ht2 e2 v2 l2)
      · rw [lk_cons, if_neg fun hd => by rw [← hd, q5] at hiu; cases hiu]
        exact h5 i u hiu
  exact main T.length (T.map (·.i)) L0 e w hok (by simp) (fun i hi => by simpa using hi) (fun t ht => .inl (List.mem_map_of_mem ht)) (fun t ht t' ht' r1 => absurd (List.mem_map_of_mem ht) r1) (fun _ _ h => h) (Ext.rfl' w)
end
end Go.Kd
namespace Go.Proofs.YtpiegpegjbmlkaaGreatDoor.Law
open Go Go.Kd
set_option maxRecDepth 100000

abbrev E0 : ByteArray := ⟨#[]⟩
theorem c_place (n k : Int) (w : World) (hk : 0 < k ∧ k ≤ 1000000) :
    Calls Tryz.prog 22 #[.int .i64 n, .int .i64 k] w (Ret fun r w' => r = .int .i64 (n % k) ∧ w = w') := by
  have h1 : -k < n.tmod k ∧ n.tmod k < k := ⟨by have := Int.lt_tmod_of_pos n hk.1; omega, Int.tmod_lt_of_pos n hk.1⟩
  have h2 : (n.tmod k + k).tmod k = n % k := by
    rw [Int.tmod_eq_emod_of_nonneg (by omega), Int.add_emod_right, Int.tmod_def, Int.sub_eq_add_neg, ← Int.mul_neg, Int.add_mul_emod_self_left]
  refine W.enter (args := [.int .i64 n, .int .i64 k]) Tryz.func22 rfl Tryz.ntmps22 rfl rfl ?_
  refine zst ?_
  refine WU.yld rfl rfl rfl (yld_rem rfl rfl (by omega)) ?_
  refine zst ?_
  refine WU.yld rfl rfl rfl (yld_rem rfl rfl (by omega)) ?_
  refine zst ?_
  exact fin1 (.inl rfl) rfl rfl ⟨by rw [h2], rfl⟩

theorem c_of (k n : Int) (a : Option Addr) (l c : Nat) (w : World) :
    Calls Tryz.prog 19 #[.int .i64 k, .int .i64 n, .slice a l c] w
      (Ret fun r w' => r = tyv k n 0 false (.slice a l c) E0 E0 false ∧ Ext w w') := by
  refine W.enter (args := [.int .i64 k, .int .i64 n, .slice a l c]) Tryz.func19 rfl Tryz.ntmps19 rfl rfl ?_
  refine zst ?_
  refine WU.stp rfl rfl rfl stp_alloc ?_
  rintro _ w1 ⟨b1, rfl, n1⟩
  refine zst ?_
  refine WU.stp0 rfl rfl (stp_store_whole rfl rfl rfl rfl) ?_
  rintro _ w2 u2
  refine zst ?_
  exact finc (.inl rfl) rfl rfl ⟨rfl, (u2.ofNew n1).ext⟩

theorem c_basic (n : Int) (w : World) :
    Calls Tryz.prog 27 #[.int .i64 n] w
      (Ret fun r w' => r = tyv 0 n 0 false (.slice none 0 0) E0 E0 false ∧ Ext w w') := by
  refine W.enter (args := [.int .i64 n]) Tryz.func27 rfl Tryz.ntmps27 rfl rfl ?_
  refine zst ?_
  refine WU.stp rfl rfl rfl stp_alloc ?_
  rintro _ w1 ⟨b1, rfl, n1⟩
  refine zst ?_
  refine WU.stp rfl rfl rfl (stp_call rfl (c_of 0 n none 0 0 w1)) ?_
  rintro _ w2 ⟨rfl, x2⟩
  refine WU.stp0 rfl rfl (stp_store_whole rfl rfl rfl rfl) ?_
  rintro _ w3 u3
  refine zst ?_
  exact finc (.inl rfl) rfl rfl ⟨rfl, u3.ext (n1.ext.trans x2) (Nat.le_of_eq n1.num.symm)⟩

theorem c_field (nm tg : ByteArray) (k n c : Int) (vr : Bool) (a : Option Addr) (l cp : Nat) (nm' tg' : ByteArray) (em : Bool) (w : World) :
    Calls Tryz.prog 20 #[.string nm, tyv k n c vr (.slice a l cp) nm' tg' em, .string tg] w
      (Ret fun r w' => r = tyv k n c vr (.slice a l cp) nm tg false ∧ Ext w w') := by
  refine W.enter (args := [.string nm, tyv k n c vr (.slice a l cp) nm' tg' em, .string tg]) Tryz.func20 rfl Tryz.ntmps20 rfl rfl ?_
  refine zst ?_
  refine WU.stp rfl rfl rfl (by first | exact stp_box rfl rfl | exact stp_box1 rfl rfl) ?_
  rintro _ w1 ⟨b1, rfl, n1⟩
  refine WU.stp rfl rfl rfl stp_alloc ?_
  rintro _ w2 ⟨b2, rfl, n2⟩
  have hb := n1.num
  have hb2 := n2.num
  have hs := n1.size
  refine zst ?_
  refine WU.stp0 rfl rfl (stp_store_cell rfl rfl rfl rfl) ?_
  rintro _ w3 u3
  refine zst ?_
  refine WU.stp0 rfl rfl (stp_store_cell rfl rfl rfl rfl) ?_
  rintro _ w4 u4
  refine zst ?_
  refine WU.stp0 rfl rfl (stp_store_cell rfl rfl rfl rfl) ?_
  rintro _ w5 u5
  refine zst ?_
  have i5 : Has w5 b2 _ := u5.keep (u4.keep (u3.keep inferInstance (by omega)) (by omega)) (by omega)
  refine WU.stp0 rfl rfl (stp_store_whole rfl rfl rfl rfl) ?_
  rintro _ w6 u6
  refine zst ?_
  have x5 : Ext w w5 := u5.ext (u4.ext (u3.ext (n1.ext.trans n2.ext) (by omega)) (by omega)) (by omega)
  exact finc (.inl rfl) rfl rfl ⟨rfl, u6.ext x5 (by omega)⟩

theorem c_element (k n c : Int) (vr : Bool) (a : Option Addr) (l cp : Nat) (nm tg : ByteArray) (em : Bool) (w : World) :
    Calls Tryz.prog 31 #[tyv k n c vr (.slice a l cp) nm tg em] w
      (Ret fun r w' => r = tyv k n c vr (.slice a l cp) E0 E0 false ∧ Ext w w') := by
  refine W.enter (args := [tyv k n c vr (.slice a l cp) nm tg em]) Tryz.func31 rfl Tryz.ntmps31 rfl rfl ?_
  refine zst ?_
  refine WU.stp rfl rfl rfl (by first | exact stp_box rfl rfl | exact stp_box1 rfl rfl) ?_
  rintro _ w1 ⟨b1, rfl, n1⟩
  refine WU.stp rfl rfl rfl stp_alloc ?_
  rintro _ w2 ⟨b2, rfl, n2⟩
  have hb := n1.num
  have hb2 := n2.num
  have hs := n1.size
  refine zst ?_
  refine WU.stp rfl rfl rfl (stp_call rfl (c_field E0 E0 k n c vr a l cp nm tg em w2)) ?_
  rintro _ w3 ⟨rfl, x3⟩
  refine WU.stp0 rfl rfl (stp_store_whole rfl rfl rfl rfl) ?_
  rintro _ w4 u4
  refine zst ?_
  exact finc (.inl rfl) rfl rfl ⟨rfl, u4.ext (n1.ext.trans (n2.ext.trans x3)) (by omega)⟩

/-- the value of a type: what it reads -/
structure TvP (w : World) (p : Nat → Prop) (v : Value) (t : Ty) : Prop where
  ex : ∃ a c, v = .agg (tyc t a c).toArray ∧ TysV w p a c t.elems
abbrev TvV (w : World) (v : Value) (t : Ty) : Prop := TvP w (fun b => b < w.heap.size) v t
theorem TvP.mono {w : World} {p q : Nat → Prop} (hq : ∀ b, p b → q b) {v : Value} {t : Ty} (h : TvP w p v t) : TvP w q v t := by
  obtain ⟨a, c, h1, h2⟩ := h.ex
  exact ⟨a, c, h1, h2.mono hq⟩
theorem TvP.at_ {w w' : World} (x : Ext w w') {p : Nat → Prop} {v : Value} {t : Ty} (h : TvP w p v t) : TvP w' p v t := by
  obtain ⟨a, c, h1, h2⟩ := h.ex
  exact ⟨a, c, h1, h2.ext x⟩
theorem TvP.upd {w w' : World} {b : Nat} {ob : Obj} (u : Upd w b ob w') {p : Nat → Prop} (hb : ¬ p b) {v : Value} {t : Ty} (h : TvP w p v t) : TvP w' p v t := by
  obtain ⟨a, c, h1, h2⟩ := h.ex
  exact ⟨a, c, h1, h2.upd u hb⟩
theorem TvP.ext {w w' : World} (x : Ext w w') {v : Value} {t : Ty} (h : TvV w v t) : TvV w' v t := (h.at_ x).mono fun b hb => by have := x.size; omega
/-- the block of a type's elements -/
def blk (v : Value) (b : Nat) : Prop := ∃ l, v = .agg l ∧ ∃ o s n c, l[4]? = some (.slice (some ⟨b, o, s⟩) n c)
theorem blk_tyc {t : Ty} {o : Option Addr} {c b : Nat} (h : blk (.agg (tyc t o c).toArray) b) : ∃ q s, o = some ⟨b, q, s⟩ := by
  obtain ⟨l, e, q, s, n, k, h⟩ := h
  cases e
  simp at h
  exact ⟨q, s, h.1⟩
/-- a new value, made of old ones -/
abbrev Mk (w : World) (p : Nat → Prop) (t : Ty) (r : Value) (w' : World) : Prop := TvP w' (fun b => p b ∨ blk r b) r t ∧ (∀ b, blk r b → w.heap.size ≤ b ∧ b < w'.heap.size) ∧ Ext w w'
theorem toV {f : FuncId} {args : Array Value} {w : World} {t : Ty} (h : Calls Tryz.prog f args w (Ret (Mk w (fun b => b < w.heap.size) t))) : Calls Tryz.prog f args w (Ret fun r w' => TvV w' r t ∧ Ext w w') :=
  h.mono fun _ _ ⟨r, e, h1, h2, x⟩ => ⟨r, e, h1.mono fun b hb => by
    have := x.size
    rcases hb with hb | hb
    · omega
    · exact (h2 b hb).2, x⟩
theorem tys_pair {w : World} {t u : Ty} {a a' : Option Addr} {c c' r : Nat} (hr : Has w r (.cells (tyc t a c ++ tyc u a' c').toArray 26)) {p : Nat → Prop} (hp : p r) (ht : TysV w p a c t.elems) (hu : TysV w p a' c' u.elems) : TysV w p (some ⟨r, 0, none⟩) 2 [t, u] :=
  ⟨Nat.le_refl _, fun i => if i = 0 then tyc t a c else tyc u a' c', fun i hi => ⟨r, 0, rfl, hp, by
    have hi : i < 2 := hi
    have hc := Cells.has hr
    rcases (show i = 0 ∨ i = 1 by omega) with rfl | rfl
    · exact hc.part (k := 0 * 8) fun j v hv => by
        have hv : (tyc t a c)[j]? = some v := hv
        simp only [Nat.zero_mul, Nat.zero_add]
        rw [List.getElem?_append_left ((List.getElem?_eq_some_iff.1 hv).1)]
        exact hv
    · exact hc.part (k := 1 * 8) fun j v hv => by
        have hv : (tyc u a' c')[j]? = some v := hv
        rw [List.getElem?_append_right (by simp)]
        simpa using hv⟩, fun i e he => by
    match i with
    | 0 => simp at he; subst he; exact .of_tys ht
    | 1 => simp at he; subst he; exact .of_tys hu
    | i + 2 => simp at he⟩
/-- a new variable for a type -/
abbrev zT : List Value := tyl 0 0 0 false (.slice none 0 0) E0 E0 false
def NewT (n0 : Nat) (v : Value) (w : World) : Prop := ∃ b, v = pt b ∧ Has w b (.cells zT.toArray 26) ∧ n0 ≤ b
def ptB (v : Value) (b : Nat) : Prop := v = pt b
theorem stp_newT {e : Env} {w0 w : World} {d : Option Tmp} {ty : TypeId} {pos : String} {aft : Array Edge} {g : Option (Nat × Bool)} (x0 : Ext w0 w) : Stp Tryz.prog e ⟨d, .alloc 26, ty, pos, aft, g⟩ w (fun v w' => Ext w w' ∧ NewT w0.heap.size v w' ∧ ∀ b, ptB v b → w.heap.size ≤ b) :=
  Stp.imp (stp_alloc (z := zT)) fun v w' ⟨b, h1, n⟩ => ⟨n.ext, ⟨b, h1, n.has, by have := n.num; have := x0.size; omega⟩, fun c hc => by
    have hc : v = pt c := hc
    rw [h1] at hc
    have := n.num
    simp at hc
    omega⟩
theorem NewT.okT {n0 : Nat} : (∀ v w1 w2, Ext w1 w2 → NewT n0 v w1 → NewT n0 v w2) ∧ ∀ v w1, NewT n0 v w1 → ∀ b, ptB v b → b < w1.heap.size :=
  ⟨fun v w1 w2 x ⟨b, h1, h2, h3⟩ => ⟨b, h1, h2.ext' x, h3⟩, fun v w1 ⟨b, h1, h2, _⟩ c hc => by
    have hc : v = pt c := hc
    rw [h1] at hc
    have := h2.lt
    simp at hc
    omega⟩
/-- a call that makes a type out of old ones, as a task -/
def MkT (n0 : Nat) (t : Ty) (v : Value) (w : World) : Prop := TvP w (fun b => b < n0 ∨ blk v b) v t ∧ ∀ b, blk v b → n0 ≤ b ∧ b < w.heap.size
theorem stp_mkT {e : Env} {w0 w : World} {d : Option Tmp} {ty : TypeId} {pos : String} {aft : Array Edge} {g : Option (Nat × Bool)} {k : FuncId} {args : List Operand} {tys : Array TypeId} {vs : List Value} {t : Ty} [h : Fun Tryz.prog k] (ha : evs e args = some vs) (hc : Calls Tryz.prog k vs.toArray w (Ret (Mk w (fun b => b < w0.heap.size) t))) (x0 : Ext w0 w) :
    Stp Tryz.prog e ⟨d, .call ⟨.value (.func k), args.toArray, tys⟩, ty, pos, aft, g⟩ w (fun v w' => Ext w w' ∧ MkT w0.heap.size t v w' ∧ ∀ b, blk v b → w.heap.size ≤ b) :=
  Stp.imp (stp_call ha hc) fun v w' ⟨h1, h2, x⟩ => ⟨x, ⟨h1, fun b hb => ⟨by have := (h2 b hb).1; have := x0.size; omega, (h2 b hb).2⟩⟩, fun b hb => (h2 b hb).1⟩
theorem MkT.okT {n0 : Nat} {t : Ty} : (∀ v w1 w2, Ext w1 w2 → MkT n0 t v w1 → MkT n0 t v w2) ∧ ∀ v w1, MkT n0 t v w1 → ∀ b, blk v b → b < w1.heap.size :=
  ⟨fun v w1 w2 x ⟨h1, h2⟩ => ⟨h1.at_ x, fun b hb => ⟨(h2 b hb).1, by have := (h2 b hb).2; have := x.size; omega⟩⟩, fun v w1 ⟨_, h2⟩ b hb => (h2 b hb).2⟩
/-- declarations in memory -/
structure LW (D : List De) (a : Option Addr) (cp : Nat) (w : World) : Prop where
  hp : Prp w
  hd : DsV w (fun b => b < w.heap.size) (.slice a D.length cp) D
theorem LW.ext {D : List De} {a : Option Addr} {cp : Nat} {w w' : World} (x : Ext w w') (h : LW D a cp w) : LW D a cp w' := ⟨h.hp.ext x, (h.hd.ext x).mono fun b hb => by have := x.size; omega⟩
theorem TvV.tys {w : World} {t : Ty} {a : Option Addr} {c : Nat} (h : TvV w (.agg (tyc t a c).toArray) t) : TysV w (fun b => b < w.heap.size) a c t.elems := by
  obtain ⟨a', c', e, h⟩ := h.ex
  simp only [Value.agg.injEq, Array.mk.injEq, List.cons.injEq, Value.slice.injEq, true_and, and_true] at e
  obtain ⟨rfl, rfl⟩ := e
  exact h
theorem t_Valid2 {D : List De} {a : Option Addr} {cp : Nat} {w : World} (lw : LW D a cp w) (hwd : wtD D ≤ 1048576) {t u : Ty} {v v' : Value} {a1 a2 : Option Addr} {c1 c2 r : Nat} (hr : Has w r (.cells (tyc t a1 c1 ++ tyc u a2 c2).toArray 26)) (hv : v = .agg (tyc t a1 c1).toArray) (hv' : v' = .agg (tyc u a2 c2).toArray) (T : TvV w v t) (T' : TvV w v' u) (hw : wt t ≤ 16777216) (hw' : wt u ≤ 16777216) :
    Calls Tryz.prog 16 #[.slice a D.length cp, .slice (some ⟨r, 0, none⟩) 2 2] w (Ret fun q w' => ∃ b, q = .bool b ∧ (b = true → ValidD D ∧ ValidT D t ∧ ValidT D u) ∧ Ext w w') := by
  subst hv hv'
  refine (c_Valid (l := [t, u]) (by omega) (by have := len_wtD D; omega) (by simpa using ⟨hw, hw'⟩) (by simp) a cp (some ⟨r, 0, none⟩) 2 w (fun b => b < w.heap.size) (fun b hb => hb) lw.hd (tys_pair hr hr.lt T.tys T'.tys)).mono fun e w' ⟨q, he, b, e1, h, x⟩ => ⟨q, he, b, e1, fun hb => ?_, x⟩
  obtain ⟨h1, h2⟩ := h hb
  exact ⟨h1, h2 t (by simp), h2 u (by simp)⟩
theorem okD {D : List De} (hV : ValidD D) (hwd : wtD D ≤ 1048576) : OkD D := ⟨hV.sh, by omega, by have := len_wtD D; omega⟩
end Go.Proofs.YtpiegpegjbmlkaaGreatDoor.Law
namespace Go.Proofs.YtpiegpegjbmlkaaGreatDoor.Law
open Go Go.Kd
set_option maxRecDepth 100000

/-- a valid type with its tree; its weight is at most n -/
structure VX (D : List De) (n : Nat) (t : Ty) (x : X) : Prop where
  vt : ValidT D t
  wt : wt t ≤ n
  ex : Exp D t x
  wf : WfX x
theorem VX.of {D : List De} (hD : OkD D) (hV : ValidD D) {n : Nat} {t : Ty} {x : X} (h : ValidT D t) (hw : Go.Proofs.YtpiegpegjbmlkaaGreatDoor.wt t ≤ n) (hn : n ≤ 16777216) (hx : Exp D t x) : VX D n t x := ⟨h, hw, hx, exp_wf hD hV hx (h.good (by omega)) h.lg⟩
theorem VX.ofT {D : List De} (hD : OkD D) (hV : ValidD D) {n : Nat} {t : Ty} (h : ValidT D t) (hw : Go.Proofs.YtpiegpegjbmlkaaGreatDoor.wt t ≤ n) (hn : n ≤ 16777216) : ∃ x, VX D n t x := by
  obtain ⟨x, hx⟩ := (h.good (by omega)).exp hD
  exact ⟨x, .of hD hV h hw hn hx⟩
theorem VX.map {D : List De} {n m : Nat} {k t : Ty} {x y : X} (hc : Cmp D k true) (h1 : VX D n k x) (h : VX D m t y) : VX D (n + m + 1) (ndT 5 0 [elT k, elT t]) (nd2 x y) :=
  ⟨valid_map h1.vt hc h.vt, by have h2 := wt_elT t; have h3 := wt_elT k; have h4 := h.wt; have h5 := h1.wt; rw [wt_nd]; simp only [wts]; omega, exp_map h1.ex h.ex, wf_nd2 h1.wf h.wf⟩
theorem VX.int (D : List De) : VX D 1 (ndT 0 1 []) (.leaf 0 1) := by
  have hu : unaliasT D (ndT 0 1 []) = ndT 0 1 [] := by rw [unalias_lit (isAl_lit (show (ndT 0 1 []).kind ≠ 1 from (by decide : (0 : Int) ≠ 1)))]; rfl
  have hk : (ndT 0 1 []).kind = 0 := rfl
  have hel : (ndT 0 1 []).elems = [] := rfl
  have hx := Exp.leaf (D := D) (ndT 0 1 []) (by rw [hu]; exact .inl rfl)
  rw [hu] at hx
  refine ⟨⟨.mk _ _ ⟨by omega, by omega, fun _ => rfl, fun _ => (by decide : (0 : Int) ≤ 1), fun _ => ?_, fun _ => by omega, fun _ => by omega, fun _ => by omega, fun _ => by omega, fun _ => by omega⟩ fun j e he => by rw [hel] at he; simp at he, .mk _ (fun j e he => by rw [hel] at he; simp at he) ⟨fun _ => by omega, fun _ => by omega, fun _ => by omega, fun _ => by omega, fun _ => by omega, fun _ => by omega, fun _ => by omega, fun _ => by omega⟩⟩, by decide, hx, .leaf _ _⟩
  rw [hk, show limitN D 0 = 22 by simp [limitN]]
  exact (by decide : (1 : Int) < 22)
/-- impl.Identical of two types -/
theorem t_Id {D : List De} {t u : Ty} {x y : X} {a : Option Addr} {cp n m : Nat} {v1 v2 : Value} {w : World} (lw : LW D a cp w) (hV : ValidD D) (hwd : wtD D ≤ 1048576) (h1 : TvV w v1 t) (h2 : TvV w v2 u) (g1 : VX D n t x) (g2 : VX D m u y) (hn : n ≤ 16777216) (hm : m ≤ 16777216) :
    Calls Tryz.prog 36 #[.slice a D.length cp, v1, v2] w (Ret fun r w' => r = .bool (idX true x y) ∧ Ext w w') := by
  obtain ⟨a1, c1, rfl, ht⟩ := h1.ex
  obtain ⟨a2, c2, rfl, hu⟩ := h2.ex
  exact (c_iIdentical lw.hp hV g1.vt g2.vt (by omega) (Nat.le_trans g1.wt hn) (Nat.le_trans g2.wt hm) g1.ex g2.ex lw.hd ht hu).mono fun e w' ⟨r, he, h, _, _, x⟩ => ⟨r, he, h, x⟩
end Go.Proofs.YtpiegpegjbmlkaaGreatDoor.Law
namespace Go.Kd
/-- nine arguments -/
theorem W.enter9 {P : Program} {k n : Nat} {fn : Func} {c : Code} {a0 a1 a2 a3 a4 a5 a6 a7 a8 : Value} {w : World} {R : Ending → World → Prop} (hf : P.funcs[k]? = some fn) (hb : fn.body = some c)
    (hn : fn.ntmps = n) (hl : Nat.ble 9 n = true) (h : W P n c (fin P fn R) [] [(0, a0), (1, a1), (2, a2), (3, a3), (4, a4), (5, a5), (6, a6), (7, a7), (8, a8)] w) : Calls P k #[a0, a1, a2, a3, a4, a5, a6, a7, a8] w R :=
  calls_of_wp hf hb (wp_mono ((h : W P n c (fin P fn R) [] (argE [a0, a1, a2, a3, a4, a5, a6, a7, a8] 0) w).out { tmps := #[a0, a1, a2, a3, a4, a5, a6, a7, a8] ++ Array.replicate (fn.ntmps - 9) undef, defers := [] } ⟨by have := Nat.le_of_ble_eq_true hl; simp; omega, rfl, fun i v hi => by
      obtain ⟨_, h2⟩ := argE_lk [a0, a1, a2, a3, a4, a5, a6, a7, a8] 0 i v hi
      simp only [Nat.sub_zero] at h2
      have : i < 9 := (List.getElem?_eq_some_iff.1 h2).1
      rw [Array.getElem?_append_left (by simpa using this)]
      simpa using h2⟩) fun x a' w' hx => by
    cases x with
    | normal =>
      obtain ⟨D', e', ha, hD, vs, hr, hR⟩ := hx
      exact ⟨by rw [ha.defers, hD], _, run_results ha hr, hR⟩
    | ret =>
      obtain ⟨D', e', ha, hD, vs, hr, hR⟩ := hx
      exact ⟨by rw [ha.defers, hD], _, run_results ha hr, hR⟩
    | panic ch => exact hx.elim
    | outgrown => exact hx.elim
    | exit id => obtain ⟨_, _, _, h⟩ := hx; exact h.elim
    | goto l => obtain ⟨_, _, _, h⟩ := hx; exact h.elim)

def freeOkD (ops : Array Oper) (target : Array Bool) (dep : Nat → List Nat) : Nat → List Nat → Array Bool → Bool
  | 0, _, L => L == target
  | m + 1, rem, L => !(Region.ready .any ops L).isEmpty && (Region.ready .any ops L).all fun i => rem.contains i && (dep i).all (fun j => !rem.contains j) && freeOkD ops target dep m (rem.erase i) (L.setIfInBounds i true)
theorem nodupB_filter (f : Tsk → Bool) : ∀ T : List Tsk, nodupB (T.map (·.d)) = true → nodupB ((T.filter f).map (·.d)) = true
  | [], _ => rfl
  | t :: T, h => by
    simp only [List.map_cons, nodupB, Bool.and_eq_true, Bool.not_eq_true', List.contains_eq_mem, decide_eq_false_iff_not] at h
    rw [List.filter_cons]
    split
    · simp only [List.map_cons, nodupB, Bool.and_eq_true, Bool.not_eq_true', List.contains_eq_mem, decide_eq_false_iff_not]
      refine ⟨fun hm => h.1 ?_, nodupB_filter f T h.2⟩
      obtain ⟨q, h1, h2⟩ := List.mem_map.1 hm
      exact List.mem_map.2 ⟨q, (List.mem_filter.1 h1).1, h2⟩
    · exact nodupB_filter f T h.2
section
variable {P : Program} {n : Nat} {ops : List Oper} {Q : Post} {D : List Deferred} {e : Env} {w : World}
theorem WT.freeD (T : List Tsk) (dep : Nat → List Nat) (k : Nat) {m : Nat} {L0 : Array Bool} (L1 : Array Bool) (hkm : (k + T.length == m) = true) (hok : freeOkD ops.toArray L1 dep T.length (T.map (·.i)) L0 = true) (hni : nodupB (T.map (·.i)) = true) (hnd : nodupB (T.map (·.d)) = true)
    (hi : AllT (fun t => ops[t.i]? = some t.o ∧ t.o.dst = some t.d ∧ Nat.blt t.d n = true ∧ wn ops e t.o.guard = some true ∧ lk e t.d = none) T)
    (hs : AllT (fun t => ∀ w', Ext w w' → ContT w' (fun e1 => Stp P e1 t.o w' (fun v w'' => Ext w' w'' ∧ t.F v w'' ∧ ∀ b, t.B v b → w'.heap.size ≤ b)) (T.filter fun q => (dep t.i).contains q.i) [] e) T)
    (hm : AllT (fun t => (∀ v w1 w2, Ext w1 w2 → t.F v w1 → t.F v w2) ∧ ∀ v w1, t.F v w1 → ∀ b, t.B v b → b < w1.heap.size) T)
    (hk : ∀ w', Ext w w' → ContT w' (fun e' => WT P n ops Q L1 k D e' w') T [] e) : WT P n ops Q L0 m D e w := by
  obtain rfl : k + T.length = m := by simpa using hkm
  have hi := hi.mem
  have hs := hs.mem
  have hm := hm.mem
  have uI := eq_of_nodupB (f := (·.i)) hni
  have uD := eq_of_nodupB (f := (·.d)) hnd
  have main : ∀ (m : Nat) (rem : List Nat) (L : Array Bool) (e' : Env) (w' : World), freeOkD ops.toArray L1 dep m rem L = true → rem.length = m → (∀ i ∈ rem, ∃ t ∈ T, t.i = i) →
      (∀ t ∈ T, t.i ∈ rem ∨ ∃ v, lk e' t.d = some v ∧ t.F v w') → (∀ t ∈ T, ∀ t' ∈ T, t.i ∉ rem → t'.i ∉ rem → t.d ≠ t'.d → ∀ v v', lk e' t.d = some v → lk e' t'.d = some v' → ∀ b, t.B v b → ¬ t'.B v' b) →
      (∀ i v, lk e i = some v → lk e' i = some v) → Ext w w' → WT P n ops Q L (k + m) D e' w' := by
    intro m
    induction m with
    | zero =>
      intro rem L e' w' h1 h2 _ h4 hS h5 hx
      obtain rfl : rem = [] := List.length_eq_zero_iff.1 h2
      obtain rfl : L = L1 := by simpa [freeOkD] using h1
      obtain ⟨e1, q1, q2⟩ := ContT.use T (fun t ht => (h4 t ht).resolve_left (by simp)) (fun t ht t' ht' => hS t ht t' ht' (by simp) (by simp)) T _ [] e (fun _ h => h) hnd (fun u hu => absurd hu List.not_mem_nil) h5 (hk w' hx)
      exact q2.sub q1
    | succ m ih =>
      intro rem L e' w' h1 h2 h3 h4 hS h5 hx
      unfold freeOkD at h1
      simp only [Bool.and_eq_true, Bool.not_eq_true', List.all_eq_true, List.isEmpty_eq_false_iff] at h1
      obtain ⟨hne, hall⟩ := h1
      refine ⟨fun hcl a ha => ⟨fun h0 => absurd h0 hne, fun i hir => ?_⟩⟩
      obtain ⟨⟨hc, hdp⟩, hf⟩ := hall i hir
      have hmem : i ∈ rem := by simpa using hc
      obtain ⟨t, ht, rfl⟩ := h3 i hmem
      obtain ⟨q1, q2, q3, q4, q5⟩ := hi t ht
      have q1' : ops.toArray[t.i]? = some t.o := by simpa using q1
      have ha0 : Fr n D e a := ha.sub h5
      unfold wpOp
      simp only [q1']
      rw [wn_spec q4 ha0, if_pos rfl]
      have hdone : ∀ t' ∈ T.filter (fun q => (dep t.i).contains q.i), t' ∈ T ∧ t'.i ∉ rem := fun t' h' => by
        obtain ⟨h1, h2⟩ := List.mem_filter.1 h'
        refine ⟨h1, fun hm' => ?_⟩
        have := hdp t'.i (by simpa using h2)
        simp [hm'] at this
      obtain ⟨e1, g1, g2⟩ := ContT.use (T.filter fun q => (dep t.i).contains q.i) (fun t' h' => (h4 t' (hdone t' h').1).resolve_left (hdone t' h').2) (fun t1 h1 t2 h2 => hS t1 (hdone t1 h1).1 t2 (hdone t2 h2).1 (hdone t1 h1).2 (hdone t2 h2).2) _ _ [] e (fun _ h => h) (nodupB_filter _ T hnd) (fun u hu => absurd hu List.not_mem_nil) h5 (hs t ht w' hx)
      refine .inl (upon_of_stp (ha.sub g1) g2 fun v w'' ⟨hx', hF, hfr⟩ => ⟨.inl hx', ?_⟩)
      have hp : Fr n D ((t.d, v) :: e') (a.put t.o.dst v) := by rw [q2]; exact ha.put (by simpa [Nat.blt_eq] using q3) v
      have old : ∀ t' ∈ T, t'.i ∉ rem.erase t.i → t'.i ≠ t.i → t'.i ∉ rem := fun t' _ h hne hm' => h ((List.mem_erase_of_ne hne).2 hm')
      have oth : ∀ t' ∈ T, t'.i ≠ t.i → ∀ u, lk ((t.d, v) :: e') t'.d = some u → lk e' t'.d = some u := fun t' ht' hne u h => by
        rwa [lk_cons, if_neg fun hd => hne (by rw [uD t ht t' ht' hd])] at h
      have new : ∀ t' ∈ T, t'.i ∉ rem.erase t.i → t'.i ≠ t.i → ∀ u, lk ((t.d, v) :: e') t'.d = some u → ∀ b, t'.B u b → ¬ t.B v b := fun t' ht' hr hne u hu b hb hb' => by
        have h6 := oth t' ht' hne u hu
        obtain ⟨u', h7, h8⟩ := (h4 t' ht').resolve_left (old t' ht' hr hne)
        rw [h6] at h7
        cases h7
        have := (hm t' ht').2 u w' h8 b hb
        have := hfr b hb'
        omega
      refine (ih (rem.erase t.i) (L.setIfInBounds t.i true) ((t.d, v) :: e') w'' hf (by rw [List.length_erase_of_mem hmem, h2]; rfl) (fun i hi' => h3 i (List.mem_of_mem_erase hi')) (fun t' ht' => ?_) (fun t1 ht1 t2 ht2 r1 r2 hne v1 v2 l1 l2 => ?_) (fun i u hiu => ?_) (hx.trans hx')).out (hcl.step hir) _ hp
      · by_cases he : t'.i = t.i
        · obtain rfl := uI t' ht' t ht he
          exact .inr ⟨v, by rw [lk_cons, if_pos rfl], hF⟩
        · rcases h4 t' ht' with h | ⟨u, h6, h7⟩
          · exact .inl ((List.mem_erase_of_ne he).2 h)
          · refine .inr ⟨u, ?_, (hm t' ht').1 u w' w'' hx' h7⟩
            rw [lk_cons, if_neg fun hd => he (by rw [uD t ht t' ht' hd])]
            exact h6
      · by_cases e1 : t1.i = t.i
        · obtain rfl := uI t1 ht1 t ht e1
          have e2 : t2.i ≠ t1.i := fun h => hne (by rw [uI t2 ht2 t1 ht1 h])
          rw [lk_cons, if_pos rfl] at l1
          cases l1
          exact fun b hb hb' => new t2 ht2 r2 e2 v2 l2 b hb' hb
        · by_cases e2 : t2.i = t.i
          · obtain rfl := uI t2 ht2 t ht e2
            rw [lk_cons, if_pos rfl] at l2
            cases l2
            exact fun b => new t1 ht1 r1 e1 v1 l1 b
          · exact hS t1 ht1 t2 ht2 (old t1 ht1 r1 e1) (old t2 ht2 r2 e2) hne v1 v2 (oth t1 ht1 e1 v1 l1) (oth t2 ht2 e2 v2 l2)
      · rw [lk_cons, if_neg fun hd => by rw [← hd, q5] at hiu; cases hiu]
        exact h5 i u hiu
  exact main T.length (T.map (·.i)) L0 e w hok (by simp) (fun i hi => by simpa using hi) (fun t ht => .inl (List.mem_map_of_mem ht)) (fun t ht t' ht' r1 => absurd (List.mem_map_of_mem ht) r1) (fun _ _ h => h) (Ext.rfl' w)
end
end Go.Kd
namespace Go.Proofs.YtpiegpegjbmlkaaGreatDoor.Law
open Go Go.Kd
set_option maxRecDepth 100000

def fldG (nm tg : ByteArray) (t : Ty) : Ty := .mk t.kind t.n t.count t.vr t.elems nm tg false
theorem Eqv.fldG (nm tg : ByteArray) (t : Ty) : Eqv t (fldG nm tg t) := ⟨rfl, rfl, rfl, rfl, rfl⟩
theorem wt_fldG (nm tg : ByteArray) (t : Ty) : wt (fldG nm tg t) ≤ wt t + nm.size + tg.size := by rw [wt_eq t, wt_eq]; show 1 + (nm.size + tg.size) + _ ≤ _; simp only [Law.fldG, Ty.elems]; omega
def st1 (p : Int) (f : Ty) : Ty := ndT 7 p [f]
def st1X (p : Int) (nm tg : ByteArray) (x : X) : X := .node 7 0 0 false [⟨nm.toList, tg.toList, p, false⟩] [x]
theorem exp_st1 {D : List De} {p : Int} {nm tg : ByteArray} {t : Ty} {x : X} (h : Exp D t x) : Exp D (st1 p (fldG nm tg t)) (st1X p nm tg x) := by
  have hu : unaliasT D (st1 p (fldG nm tg t)) = st1 p (fldG nm tg t) := unal_lit (show (7 : Int) ≠ 0 by decide) (show (7 : Int) ≠ 1 by decide)
  have := Exp.plain (D := D) (st1 p (fldG nm tg t)) [x] (by rw [hu]; show (2 : Int) ≤ 7; decide) (by rw [hu]; show (7 : Int) ≤ 8; decide) (by rw [hu]; rfl) fun i e y he hy => by
    rw [hu] at he
    have he : [fldG nm tg t][i]? = some e := he
    match i with
    | 0 =>
      obtain rfl : fldG nm tg t = e := by simpa using he
      obtain rfl : x = y := by simpa using hy
      exact (Eqv.fldG nm tg t).exp h
    | i + 1 => simp at he
  rw [hu] at this
  exact this
theorem idX_st1 {tags : Bool} {p p' : Int} {nm tg nm' tg' : ByteArray} {x x' : X} : idX tags (st1X p nm tg x) (st1X p' nm' tg' x') = (sameNm nm.toList p nm'.toList p' && (!tags || tg.toList == tg'.toList) && idX tags x x') := by
  unfold st1X
  rw [idX_node, if_neg (by decide)]
  simp [sameAn, idL]
theorem wf_st1 {p : Int} {nm tg : ByteArray} {x : X} (h : WfX x) : WfX (st1X p nm tg x) := .node _ _ _ _ _ _ (fun h => absurd h (by decide)) fun e he => by simp at he; subst he; exact h
theorem valid_st1 {D : List De} {p : Int} {nm tg : ByteArray} {t : Ty} (h : ValidT D (st1 p (fldG nm tg t))) : ValidT D t ∧ ∃ c l, nm.toList = c :: l := by
  refine ⟨(Eqv.fldG nm tg t).symm.valid (h.el (i := 0) rfl), ?_⟩
  have h1 := ((h.lg.here.fld rfl).id 0 nm.toList rfl).ne
  cases hl : nm.toList with
  | nil => exact absurd hl h1
  | cons c l => exact ⟨c, l, rfl⟩
theorem VX.st1 {D : List De} {p : Int} {nm tg : ByteArray} {t : Ty} {n : Nat} {x : X} (h : ValidT D (Law.st1 p (fldG nm tg t))) (V : VX D n t x) (hn : nm.size ≤ 1048576) (hg : tg.size ≤ 1048576) (hm : n ≤ 1048576) : VX D 3145729 (Law.st1 p (fldG nm tg t)) (st1X p nm tg x) :=
  ⟨h, by
    unfold Law.st1
    rw [wt_nd]
    have h1 := wt_fldG nm tg t
    have h2 := V.wt
    simp only [wts]
    omega, exp_st1 V.ex, wf_st1 V.wf⟩
/-- the form that the law gives the names' sameness -/
theorem same_nm (s s' : List UInt8) (p p' : Int) : sameNm s p s' p' = (s == s' && (expo s || p == p')) := by
  unfold sameNm
  rw [Bool.or_comm]
theorem n_fieldG {nm tg : ByteArray} {v : Value} {t : Ty} {w : World} {p : Nat → Prop} (h : TvP w p v t) : Calls Tryz.prog 20 #[.string nm, v, .string tg] w (Ret fun r w' => TvP w' p r (fldG nm tg t) ∧ Ext w w') := by
  obtain ⟨a, c, rfl, ht⟩ := h.ex
  exact (c_field nm tg t.kind t.n t.count t.vr a t.elems.length c t.name t.tag t.emb w).mono fun _ _ ⟨r, e, h, x⟩ => ⟨r, e, ⟨a, c, h, ht.ext x⟩, x⟩
theorem c_structure (m k n c : Int) (vr : Bool) (a : Option Addr) (l cp : Nat) (nm tg : ByteArray) (em : Bool) (w : World) :
    Calls Tryz.prog 35 #[.int .i64 m, tyv k n c vr (.slice a l cp) nm tg em] w
      (Ret fun r w' => ∃ b, r = tyv 7 m 0 false (.slice (some ⟨b, 0, none⟩) 1 1) E0 E0 false ∧ Has w' b (.cells (tyl k n c vr (.slice a l cp) nm tg em).toArray 26) ∧ w.heap.size ≤ b ∧ Ext w w') := by
  refine W.enter (args := [.int .i64 m, tyv k n c vr (.slice a l cp) nm tg em]) Tryz.func35 rfl Tryz.ntmps35 rfl rfl ?_
  refine zst ?_
  refine WU.stp rfl rfl rfl (by first | exact stp_box rfl rfl | exact stp_box1 rfl rfl) ?_
  rintro _ w1 ⟨b1, rfl, n1⟩
  refine WU.stp rfl rfl rfl stp_alloc ?_
  rintro _ w2 ⟨b2, rfl, n2⟩
  have hb := n1.num
  have hb2 := n2.num
  have hs := n1.size
  refine zst ?_
  refine WU.stp rfl rfl rfl (stp_buildSlice rfl rfl rfl rfl rfl) ?_
  rintro _ w4 ⟨b4, rfl, n4⟩
  refine WU.stp rfl rfl rfl (stp_call rfl (c_of 7 m (some ⟨b4, 0, none⟩) 1 1 w4)) ?_
  rintro _ w5 ⟨rfl, x5⟩
  have h2 := n2.has.lt
  have hb4 := n4.num
  refine WU.stp0 rfl rfl (stp_store_whole rfl rfl rfl rfl) ?_
  rintro _ w6 u6
  refine zst ?_
  exact finc (.inl rfl) rfl rfl ⟨b4, rfl, u6.keep inferInstance (by omega), by omega, u6.ext (n1.ext.trans (n2.ext.trans (n4.ext.trans x5))) (by omega)⟩
theorem n_structure {m : Int} {v : Value} {f : Ty} {w : World} {p : Nat → Prop} (h : TvP w p v f) : Calls Tryz.prog 35 #[.int .i64 m, v] w (Ret (Mk w p (st1 m f))) := by
  obtain ⟨a, c, rfl, ht⟩ := h.ex
  refine (c_structure m f.kind f.n f.count f.vr a f.elems.length c f.name f.tag f.emb w).mono fun e w' he => ?_
  obtain ⟨r, rfl, b, rfl, hb, hs, x⟩ := he
  exact ⟨_, rfl, ⟨_, _, rfl, tys_one (t := f) hb (.inr ⟨_, rfl, 0, none, 1, 1, rfl⟩) ((ht.ext x).mono fun b hb => .inl hb)⟩, fun d hd => by
    obtain ⟨q, s, e⟩ := blk_tyc (t := st1 m f) hd
    cases e
    exact ⟨hs, hb.lt⟩, x⟩
end Go.Proofs.YtpiegpegjbmlkaaGreatDoor.Law
namespace Go.Proofs.YtpiegpegjbmlkaaGreatDoor
open Go Go.Kd
set_option maxRecDepth 100000

theorem c_gIdenticalT {K : Cfg} {s : Gs} {w : World} {vx vy : Value} {tx ty : Ty} {x y : X} (ic : IC K s w) (hx : TX K s w vx tx x) (hy : TX K s w vy ty y) : Calls Tryz.prog 57 #[vx, vy] w (Ret fun r w' => r = .bool (idX false x y) ∧ Ext w w') := by
  refine W.enter (args := [vx, vy]) Tryz.func57 rfl Tryz.ntmps57 rfl rfl ?_
  refine zst ?_
  refine WU.stp rfl rfl rfl stp_alloc ?_
  rintro _ w1 ⟨cb, rfl, n1⟩
  refine zst ?_
  refine WU.stp0 rfl rfl (stp_store_cell rfl rfl rfl rfl) ?_
  rintro _ w2 u2
  have hcb : Has w2 cb (.cells (cmc true) tCM) := u2.has
  have x2 : Ext w w2 := u2.ext n1.ext (Nat.le_of_eq n1.num.symm)
  refine zst ?_
  refine WU.stp rfl rfl rfl (stp_call rfl (c_identical (K := K) (s := s) (cb := cb) (ign := true) _ x (Nat.lt_succ_self _) w2 vx vy tx ty y none (ic.ext x2) hcb (hx.ext x2) (hy.ext x2) (.nil _ _))) ?_
  rintro _ w3 ⟨rfl, x3⟩
  refine zst ?_
  exact fin1 (.inl rfl) rfl rfl ⟨rfl, x2.trans x3⟩
set_option maxHeartbeats 2000000 in
theorem c_iIdenticalT {D : List De} {t u : Ty} {x y : X} {a : Option Addr} {cp : Nat} {a1 a2 : Option Addr} {c1 c2 : Nat} {w : World} (hp : Prp w) (hV : ValidD D) (hT : ValidT D t) (hU : ValidT D u) (hwd : wtD D ≤ 16777216) (hwt : wt t ≤ 16777216) (hwu : wt u ≤ 16777216) (hx : Exp D t x) (hy : Exp D u y)
    (hd : DsV w (fun b => b < w.heap.size) (.slice a D.length cp) D) (ht : TysV w (fun b => b < w.heap.size) a1 c1 t.elems) (hu : TysV w (fun b => b < w.heap.size) a2 c2 u.elems) :
    Calls Tryz.prog 37 #[.slice a D.length cp, .agg (tyc t a1 c1).toArray, .agg (tyc u a2 c2).toArray] w (Ret fun r w' => r = .bool (idX false x y) ∧ WfX x ∧ WfX y ∧ Ext w w') := by
  refine W.enter (args := [.slice a D.length cp, .agg (tyc t a1 c1).toArray, .agg (tyc u a2 c2).toArray]) Tryz.func37 rfl Tryz.ntmps37 rfl rfl ?_
  refine zst ?_
  refine WU.stp rfl rfl rfl (by first | exact stp_box rfl rfl | exact stp_box1 rfl rfl) ?_
  rintro _ w1 ⟨b4, rfl, n1⟩
  refine zst ?_
  have ib4 : Has w1 b4 (.cells (tyc t a1 c1).toArray 26) := n1.has
  refine WU.stp rfl rfl rfl (by first | exact stp_box rfl rfl | exact stp_box1 rfl rfl) ?_
  rintro _ w2 ⟨b5, rfl, n2⟩
  have ib5 : Has w2 b5 (.cells (tyc u a2 c2).toArray 26) := n2.has
  have x02 := n1.ext.trans n2.ext
  have z02 := x02.size
  have jb4 := ib4.ext' n2.ext
  refine zst ?_
  refine WU.stp rfl rfl rfl (stp_call rfl (c_build' (hp.ext x02) hV hwd (hd.ext x02) fun b hb => by omega)) ?_
  rintro _ w3 ⟨K, s, bb, rfl, rfl, hKN, x3, hB⟩
  have z3 := x3.size
  refine zst ?_
  obtain ⟨F, hFd⟩ : ∃ F : World → Prop, ∀ W, F W ↔ (Has W b4 (.cells (tyc t a1 c1).toArray 26) ∧ Has W b5 (.cells (tyc u a2 c2).toArray 26)) := ⟨fun W => (Has W b4 (.cells (tyc t a1 c1).toArray 26) ∧ Has W b5 (.cells (tyc u a2 c2).toArray 26)), fun _ => Iff.rfl⟩
  refine W.regR (R := fun a b => F a → F b) (fun _ h => h) (fun _ _ _ h k x => k (h x)) [(0, .q), (1, .q), (3, .q), (4, .q), (2, .l), (5, .l), (6, .l), (7, .q)] (by kernel_rfl) (by kernel_rfl) rfl ?_
  intro w4 x4 _
  have x24 := x3.trans x4
  have hF : F w4 := (hFd _).2 ⟨jb4.ext' x24, ib5.ext' x24⟩
  have hB4 := hB.ext x4
  have z4 := x4.size
  (repeat (first
      | refine WR.nilk ?_
      | refine WR.nil ?_
      | refine WR.yld (fun _ h => h) rfl rfl rfl rfl (fun w' hx => by obtain ⟨i1, i2⟩ := (hFd _).1 (hx hF); first | exact zyl | (exact by first | exact yld_load_cells rfl (Cells.has i1) | exact yld_load_cells rfl (Cells.has i2)) | exact yld_indexAddr_arr rfl rfl (by omega)) ?_
      | refine WR.skip rfl rfl rfl rfl ?_))
  refine WR.stp rfl rfl rfl rfl (stp_call rfl (c_of hB4 (p := fun b => b < w.heap.size) (cs := tyc t a1 c1) (t := t) ((TyV.of_tys ht).ext (x02.trans x24)) (fun b hb => ⟨by omega, by omega⟩) ⟨true, hT.sh⟩ hT.lg (by show _ ≤ 268435456; omega))) ?_
  rintro _ w5 ⟨s5, hg5, st5, hB5, rt5, T5, rb5, rfl⟩
  have hF : F w5 := (hFd _).2 ⟨Has.sta st5 ((hFd _).1 hF).1, Has.sta st5 ((hFd _).1 hF).2⟩
  refine ⟨fun _ => hF, ?_⟩
  (repeat (first
      | refine WR.nilk ?_
      | refine WR.nil ?_
      | refine WR.yld (fun _ h => h) rfl rfl rfl rfl (fun w' hx => by obtain ⟨i1, i2⟩ := (hFd _).1 (hx hF); first | exact zyl | (exact by first | exact yld_load_cells rfl (Cells.has i1) | exact yld_load_cells rfl (Cells.has i2)) | exact yld_indexAddr_arr rfl rfl (by omega)) ?_
      | refine WR.skip rfl rfl rfl rfl ?_))
  have x25 : Ext w2 w5 := ext_sta x24 (by omega) st5
  have z5 := x25.size
  refine WR.stp rfl rfl rfl rfl (stp_call rfl (c_of hB5 (p := fun b => b < w.heap.size) (cs := tyc u a2 c2) (t := u) ((TyV.of_tys hu).ext (x02.trans x25)) (fun b hb => ⟨by omega, by omega⟩) ⟨true, hU.sh⟩ hU.lg (by show _ ≤ 268435456; omega))) ?_
  rintro _ w6 ⟨s6, hg6, st6, hB6, rt6, T6, rb6, rfl⟩
  have hF : F w6 := (hFd _).2 ⟨Has.sta st6 ((hFd _).1 hF).1, Has.sta st6 ((hFd _).1 hF).2⟩
  refine ⟨fun _ => hF, ?_⟩
  (repeat (first
      | refine WR.nilk ?_
      | refine WR.nil ?_
      | refine WR.yld (fun _ h => h) rfl rfl rfl rfl (fun w' hx => by obtain ⟨i1, i2⟩ := (hFd _).1 (hx hF); first | exact zyl | (exact by first | exact yld_load_cells rfl (Cells.has i1) | exact yld_load_cells rfl (Cells.has i2)) | exact yld_indexAddr_arr rfl rfl (by omega)) ?_
      | refine WR.skip rfl rfl rfl rfl ?_))
  have rt5' := RT.gle hg6 (rt5.sta st6 (by omega))
  have x26 : Ext w2 w6 := ext_sta x25 (by omega) st6
  have tx1 := TX.of hB6.ic rt5' ⟨⟨_, _, Nat.le_refl _, hT.sh⟩, hwt⟩ hT.lg hx
  have tx2 := TX.of hB6.ic rt6 ⟨⟨_, _, Nat.le_refl _, hU.sh⟩, hwu⟩ hU.lg hy
  refine WR.stp rfl rfl rfl rfl (stp_call rfl (c_gIdenticalT hB6.ic tx1 tx2)) ?_
  rintro _ w7 ⟨rfl, x7⟩
  have hF : F w7 := (hFd _).2 ⟨((hFd _).1 hF).1.ext' x7, ((hFd _).1 hF).2.ext' x7⟩
  refine ⟨fun _ => hF, ?_⟩
  (repeat (first
      | refine WR.nilk ?_
      | refine WR.nil ?_
      | refine WR.yld (fun _ h => h) rfl rfl rfl rfl (fun w' hx => by obtain ⟨i1, i2⟩ := (hFd _).1 (hx hF); first | exact zyl | (exact by first | exact yld_load_cells rfl (Cells.has i1) | exact yld_load_cells rfl (Cells.has i2)) | exact yld_indexAddr_arr rfl rfl (by omega)) ?_
      | refine WR.skip rfl rfl rfl rfl ?_))
  refine zst ?_
  exact fin1 (.inl rfl) rfl rfl ⟨rfl, tx1.rt.wfx hB6.ic x _ _ tx1.rd tx1.gd hx, tx2.rt.wfx hB6.ic y _ _ tx2.rd tx2.gd hy, (x02.trans x26).trans x7⟩
end Go.Proofs.YtpiegpegjbmlkaaGreatDoor
namespace Go.Proofs.YtpiegpegjbmlkaaGreatDoor.Law
open Go Go.Kd
/-- impl.IdenticalIgnoreTags of two types -/
theorem t_IdT {D : List De} {t u : Ty} {x y : X} {a : Option Addr} {cp n m : Nat} {v1 v2 : Value} {w : World} (lw : LW D a cp w) (hV : ValidD D) (hwd : wtD D ≤ 1048576) (h1 : TvV w v1 t) (h2 : TvV w v2 u) (g1 : VX D n t x) (g2 : VX D m u y) (hn : n ≤ 16777216) (hm : m ≤ 16777216) :
    Calls Tryz.prog 37 #[.slice a D.length cp, v1, v2] w (Ret fun r w' => r = .bool (idX false x y) ∧ Ext w w') := by
  obtain ⟨a1, c1, rfl, ht⟩ := h1.ex
  obtain ⟨a2, c2, rfl, hu⟩ := h2.ex
  exact (c_iIdenticalT lw.hp hV g1.vt g2.vt (by omega) (Nat.le_trans g1.wt hn) (Nat.le_trans g2.wt hm) g1.ex g2.ex lw.hd ht hu).mono fun e w' ⟨r, he, h, _, _, x⟩ => ⟨r, he, h, x⟩
end Go.Proofs.YtpiegpegjbmlkaaGreatDoor.Law
namespace Go.Kd
variable {P : Program} {e : Env} {w : World} {d : Option Tmp} {ty t t2 : TypeId} {pos : String} {aft : Array Edge} {g : Option (Nat × Bool)} {x y z : Operand}

theorem flatN_len {sz : Nat} : ∀ (ls : List (List Value)), (∀ l ∈ ls, l.length = sz) → ls.flatten.length = ls.length * sz
  | [], _ => by simp
  | a :: r, h => by
    rw [List.flatten_cons, List.length_append, flatN_len r fun l hl => h l (List.mem_cons_of_mem _ hl), h a (List.mem_cons_self ..), List.length_cons, Nat.succ_mul]
    omega
theorem flatN_get {sz : Nat} (hsz : 0 < sz) (ls : List (List Value)) (hl : ∀ l ∈ ls, l.length = sz) {j : Nat} {v : Value} (h : ls.flatten[j]? = some v) : ∃ l, ls[j / sz]? = some l ∧ l[j % sz]? = some v := by
  have hj := (List.getElem?_eq_some_iff.1 h).1
  rw [flatN_len ls hl] at hj
  have hi : j / sz < ls.length := Nat.div_lt_of_lt_mul (by rw [Nat.mul_comm]; exact hj)
  have hle := hl _ (List.getElem_mem hi)
  have hm : j % sz < (ls[j / sz]).length := by rw [hle]; exact Nat.mod_lt _ hsz
  have := flat_at ls hl (j / sz) _ (j % sz) _ (List.getElem?_eq_getElem hi) (List.getElem?_eq_getElem hm)
  have e : j / sz * sz + j % sz = j := by rw [Nat.mul_comm]; exact Nat.div_add_mod j sz
  rw [e, h] at this
  exact ⟨_, List.getElem?_eq_getElem hi, by rw [List.getElem?_eq_getElem hm]; exact this.symm⟩
theorem run_appendN {el sz : Nat} {zs : List Value} [hu : Und P t (.slice el)] [hz : Zro P el zs] [hi : Inf P el sz] [hb : Byt P el] {base : Nat} {v : Value} {ls rs : List (List Value)} {a : Option Addr} {c : Nat} {p : Nat → Prop}
    (ho : Own w base el sz v ls) (hs : SlC w p sz a rs.length (fun i => rs.getD i [])) (hl : ∀ r ∈ rs, r.length = sz) (hzl : zs.length = sz) (hsz : 0 < sz) (h1 : ∀ r ∈ rs, ∀ u ∈ r, u.oneCell' = true) (hn : ls.length + rs.length ≤ 1073741824) (hbase : base ≤ w.heap.size) (ha : rs = [] → a = none ∨ ∃ x, a = some x) :
    ∃ v' w', (Builtin.append_ #[t, t] ty #[v, .slice a rs.length c]).run P w = .ok v' w' ∧ Own w' base el sz v' (ls ++ rs) ∧ App w w' v ∧ (∀ g, v'.ownBlock = some g → v.ownBlock = some g ∨ g = w.heap.size) := by
  obtain ⟨i, zv, h2, h3, h4⟩ := hz.at_
  obtain ⟨i', h5, h6⟩ := hi.at_
  obtain ⟨i2, h7, h8⟩ := hb.at_
  obtain rfl : i = i' := by rw [h2] at h5; exact Option.some.inj h5
  obtain rfl : i = i2 := by rw [h2] at h7; exact Option.some.inj h7
  have main : ∀ (ad : Addr), a = some ad → (∀ j u, rs.flatten[j]? = some u → w.cell? (ad.add j) = some u) → ∃ v' w', (Builtin.append_ #[t, t] ty #[v, .slice a rs.length c]).run P w = .ok v' w' ∧ Own w' base el sz v' (ls ++ rs) ∧ App w w' v ∧ (∀ g, v'.ownBlock = some g → v.ownBlock = some g ∨ g = w.heap.size) := by
    rintro ad rfl hc
    obtain ⟨v', w', hr, k1, k2, k3, k4⟩ := run_append_own_at (P := P) w base t ty el i zv sz i.bytes hu.at_ h2 h3 h6 rfl (by rw [h4]; simpa using hzl) hsz v ls.length ls.flatten ho.row ad rs.length c rs.flatten (flatN_len rs hl)
      hc (fun u hu' => by
        obtain ⟨r, hr, hur⟩ := List.mem_flatten.1 hu'
        exact h1 r hr u hur) (by unfold maxLen; omega) (by
        have : (ls.length + rs.length) * i.bytes ≤ 1073741824 * 4096 := Nat.mul_le_mul (by omega) h8
        omega) hbase
    refine ⟨v', w', hr, ⟨fun l hl' => ?_, ?_⟩, k2, fun g hg => ?_⟩
    · rcases List.mem_append.1 hl' with h | h
      · exact ho.each l h
      · exact hl l h
    · simpa using k1
    · rcases k4 with h | h
      · exact .inl (by rw [← h]; exact hg)
      · right; rw [h] at hg; simpa using hg.symm
  by_cases h0 : rs = []
  · subst h0
    rcases ha rfl with rfl | ⟨ad, rfl⟩
    · obtain ⟨a', cp, rfl, hcp, _⟩ := ho.shape
      refine ⟨_, w, ?_, by simpa using ho, ⟨rfl, rfl, rfl, Nat.le_refl _, fun _ _ _ => rfl⟩, fun g hg => .inl hg⟩
      cases a' <;> simp [Builtin.append_, run_underlying hu.at_, sizeOf, typeInfo, h2, hcp, Builtin.lenOf, run_firstCells_none, storeCells, Sem.run_bind]
    · exact main ad rfl fun j u hj => by simp at hj
  · have h0' : 0 < rs.length := List.length_pos_iff.2 h0
    obtain ⟨b, o, rfl, _, _⟩ := hs 0 h0'
    refine main _ rfl fun j u hj => ?_
    obtain ⟨l, q1, q2⟩ := flatN_get hsz rs hl hj
    obtain ⟨b', o', e', _, hc⟩ := hs (j / sz) (List.getElem?_eq_some_iff.1 q1).1
    cases e'
    have := hc (j % sz) u (by simp only [List.getD_eq_getElem?_getD, q1]; exact q2)
    rw [show (⟨b, o, none⟩ : Addr).add j = ⟨b, o + j, none⟩ from Addr.add_mid ..]
    rw [show o + j / sz * sz + j % sz = o + j from by have := Nat.div_add_mod j sz; rw [Nat.mul_comm] at this; omega] at this
    exact this
theorem stp_appendN {el sz : Nat} {zs : List Value} [hu : Und P t (.slice el)] [hz : Zro P el zs] [hi : Inf P el sz] [hb : Byt P el] {base : Nat} {v : Value} {ls rs : List (List Value)} {a : Option Addr} {n c : Nat} {p : Nat → Prop}
    (hx : ev e x = some v) (hy : ev e y = some (.slice a n c)) (hn' : rs.length = n)
    (ho : Own w base el sz v ls) (hs : SlC w p sz a n (fun i => rs.getD i [])) (hl : ∀ r ∈ rs, r.length = sz) (hzl : zs.length = sz) (hsz : 0 < sz) (h1 : ∀ r ∈ rs, ∀ u ∈ r, u.oneCell' = true) (hn : ls.length + rs.length ≤ 1073741824) (hbase : base ≤ w.heap.size) :
    Stp P e ⟨d, .call ⟨.builtin .append, #[x, y], #[t, t]⟩, ty, pos, aft, g⟩ w (fun v' w' => Own w' base el sz v' (ls ++ rs) ∧ App w w' v ∧ (∀ g, v'.ownBlock = some g → v.ownBlock = some g ∨ g = w.heap.size)) := ⟨fun ρ hρ => by
  subst hn'
  obtain ⟨v', w', hr, h2⟩ := run_appendN (P := P) (t := t) (ty := ty) (c := c) (hu := hu) (hz := hz) (hi := hi) (hb := hb) ho hs hl hzl hsz h1 hn hbase fun _ => by cases a <;> simp
  have he : (execOp ρ ⟨d, .call ⟨.builtin .append, #[x, y], #[t, t]⟩, ty, pos, aft, g⟩).run P w = .ok (.value v') w' := by
    simp only [execOp, resolve, invoke, builtin, List.map_toArray, List.map_cons, List.map_nil, hρ x _ hx, hρ y _ hy, Sem.run_bind, Sem.run_pure, Result.andThen_ok, hr]
  rw [he]
  exact h2⟩
end Go.Kd
namespace Go.Proofs.YtpiegpegjbmlkaaGreatDoor
open Go Go.Kd

section
variable {D E : List De}
theorem decl_app {t : Ty} (h : t.kind = 1 → 0 ≤ t.n ∧ t.n < D.length) : decl (D ++ E) t = decl D t := by
  unfold decl
  split
  · rename_i hk
    obtain ⟨h0, h1⟩ := h hk
    rw [List.getElem?_append_left (by omega)]
  · rfl
theorem isAl_app {t : Ty} (h : t.kind = 1 → 0 ≤ t.n ∧ t.n < D.length) : isAl (D ++ E) t = isAl D t := by unfold isAl; rw [decl_app h]
theorem Shaped.app {i : Nat} {v : Bool} {t : Ty} (h : Shaped D i v t) : Shaped (D ++ E) i v t := by
  induction h with
  | mk v t s _ ih =>
    by_cases hk : t.kind = 1
    · have h0 := s.n0 (by rw [hk]; simp [limitN]; try omega)
      have h1 := s.n1 (by rw [hk]; simp [limitN])
      rw [hk] at h1
      simp [limitN] at h1
      refine .mk v t ⟨s.lo, s.hi, s.len, fun _ => h0, fun _ => ?_, fun _ hv => s.nm hk (by rwa [isAl_app fun _ => ⟨h0, h1⟩] at hv), s.c0, s.c1, s.vr, s.mth⟩ ih
      rw [hk]
      simp [limitN]
      omega
    · have hl : limitN (D ++ E) t.kind = limitN D t.kind := by simp [limitN, hk]
      exact .mk v t ⟨s.lo, s.hi, s.len, fun h => s.n0 (by rwa [hl] at h), fun h => by rw [hl] at h ⊢; exact s.n1 h, fun h => absurd h hk, s.c0, s.c1, s.vr, s.mth⟩ ih
end
end Go.Proofs.YtpiegpegjbmlkaaGreatDoor
namespace Go.Proofs.YtpiegpegjbmlkaaGreatDoor
open Go Go.Kd

end Go.Proofs.YtpiegpegjbmlkaaGreatDoor
namespace Go.Proofs.YtpiegpegjbmlkaaGreatDoor.Law
open Go Go.Kd
set_option maxRecDepth 100000

abbrev tDe : Nat := 51
theorem DeV.mono {w : World} {p q : Nat → Prop} (hq : ∀ b, p b → q b) {cs : List Value} {e : De} (h : DeV w p cs e) : DeV w q cs e := by
  obtain ⟨ts, a, cp, f, h1, h2, h3, h4⟩ := h
  refine ⟨ts, a, cp, f, h1, h2.mono hq, h3.mono hq, fun i m hm => ?_⟩
  obtain ⟨k, k1, k2⟩ := h4 i m hm
  exact ⟨k, k1, k2.mono hq⟩
/-- an owned slice of declarations -/
def OwnD (n0 : Nat) (R : List (List Value)) (v : Value) (w : World) : Prop := Own w n0 tDe 12 v R
theorem OwnD.okT {n0 : Nat} {R : List (List Value)} : (∀ v w1 w2, Ext w1 w2 → OwnD n0 R v w1 → OwnD n0 R v w2) ∧ ∀ v w1, OwnD n0 R v w1 → ∀ b, v.ownBlock = some b → b < w1.heap.size :=
  ⟨fun _ _ _ x h => Own.ext x h, fun _ _ h b hb => (Own.lt h b hb).2⟩
def RowD (r : List Value) (v : Value) (w : World) : Prop := ∃ b, v = .slice (some ⟨b, 0, none⟩) 1 1 ∧ Has w b (.cells r.toArray tDe)
theorem RowD.okT {r : List Value} : (∀ v w1 w2, Ext w1 w2 → RowD r v w1 → RowD r v w2) ∧ ∀ v w1, RowD r v w1 → ∀ b, v.ownBlock = some b → b < w1.heap.size :=
  ⟨fun _ _ _ x ⟨b, h1, h2⟩ => ⟨b, h1, h2.ext' x⟩, fun v w1 ⟨b, h1, h2⟩ c hc => by
    rw [h1] at hc
    have : b = c := by simpa [Value.ownBlock] using hc
    have := h2.lt
    omega⟩
/-- a call that makes a type out of old ones, without new blocks -/
def OldT (n0 : Nat) (t : Ty) (v : Value) (w : World) : Prop := TvP w (fun b => b < n0) v t
theorem OldT.okT {n0 : Nat} {t : Ty} : (∀ v w1 w2, Ext w1 w2 → OldT n0 t v w1 → OldT n0 t v w2) ∧ ∀ v w1, OldT n0 t v w1 → ∀ b, (fun (_ : Value) (_ : Nat) => False) v b → b < w1.heap.size := ⟨fun _ _ _ x h => TvP.at_ x h, fun _ _ _ _ h => h.elim⟩
theorem stp_oldT {n0 : Nat} {e : Env} {w : World} {d : Option Tmp} {ty : TypeId} {pos : String} {aft : Array Edge} {g : Option (Nat × Bool)} {k : FuncId} {args : List Operand} {tys : Array TypeId} {vs : List Value} {t : Ty} [h : Fun Tryz.prog k] (ha : evs e args = some vs) (hc : Calls Tryz.prog k vs.toArray w (Ret fun r w' => TvP w' (fun b => b < n0) r t ∧ Ext w w')) :
    Stp Tryz.prog e ⟨d, .call ⟨.value (.func k), args.toArray, tys⟩, ty, pos, aft, g⟩ w (fun v w' => Ext w w' ∧ OldT n0 t v w' ∧ ∀ b, (fun (_ : Value) (_ : Nat) => False) v b → w.heap.size ≤ b) :=
  Stp.imp (stp_call ha hc) fun _ _ ⟨h1, x⟩ => ⟨x, h1, fun _ h => h.elim⟩
end Go.Proofs.YtpiegpegjbmlkaaGreatDoor.Law
namespace Go.Proofs.YtpiegpegjbmlkaaGreatDoor
open Go Go.Kd

end Go.Proofs.YtpiegpegjbmlkaaGreatDoor
namespace Go.Proofs.YtpiegpegjbmlkaaGreatDoor.Law
open Go Go.Kd
set_option maxRecDepth 100000

end Go.Proofs.YtpiegpegjbmlkaaGreatDoor.Law
namespace Go.Proofs.YtpiegpegjbmlkaaGreatDoor.Law
open Go Go.Kd
set_option maxRecDepth 100000

/-- rows that are types -/
def Rws (w : World) (p : Nat → Prop) (R : List (List Value)) (l : List Ty) : Prop := ∀ (i : Nat) r e, R[i]? = some r → l[i]? = some e → TyV w p r (elT e)
theorem rows_snoc {w : World} {p : Nat → Prop} {R : List (List Value)} {l : List Ty} {k : Nat} {r : List Value} {e : Ty} (hl : R.length = k) (h : Rws w p R l) (he : l[k]? = some e) (hr : TyV w p r (elT e)) : Rws w p (R ++ [r]) l := fun i r' e' h1 h2 => by
  rcases Nat.lt_trichotomy i k with hi | hi | hi
  · rw [List.getElem?_append_left (by omega)] at h1
    exact h i r' e' h1 h2
  · subst hi
    rw [List.getElem?_append_right (by omega), hl, Nat.sub_self] at h1
    simp at h1
    subst h1
    rw [he] at h2
    cases h2
    exact hr
  · rw [List.getElem?_eq_none (by simp; omega)] at h1
    cases h1
theorem own_tys {w0 w : World} {base n0 : Nat} {p : Nat → Prop} {v : Value} {R : List (List Value)} {l : List Ty} (ho : Own w base 26 8 v R) (hl : R.length = l.length) (hR : Rws w0 p R l) (x : Ext w0 w) (hb : n0 ≤ base) :
    ∃ a cp, v = .slice a l.length cp ∧ TysV w (fun b => p b ∨ v.ownBlock = some b) a cp (l.map elT) ∧ ∀ b, v.ownBlock = some b → n0 ≤ b ∧ b < w.heap.size := by
  obtain ⟨a, cp, e, h1, h2⟩ := ho.shape
  refine ⟨a, cp, by rw [e, hl], ⟨by rw [List.length_map]; omega, fun i => R.getD i [], ?_, fun i e' he => ?_⟩, fun b hb' => ⟨by have := (ho.lt b hb').1; omega, (ho.lt b hb').2⟩⟩
  · rw [List.length_map, ← hl]
    exact h2.mono fun b hb => .inr hb
  · rw [List.getElem?_map] at he
    cases hq : l[i]? with
    | none => rw [hq] at he; cases he
    | some t =>
      rw [hq] at he
      obtain rfl : elT t = e' := by simpa using he
      have hi : i < R.length := by rw [hl]; exact (List.getElem?_eq_some_iff.1 hq).1
      show TyV w _ (R.getD i []) (elT t)
      rw [List.getD_eq_getElem?_getD, List.getElem?_eq_getElem hi]
      exact ((hR i _ t (List.getElem?_eq_getElem hi) hq).ext x).mono fun b hb => .inl hb
theorem blk_own {k n c : Int} {vr : Bool} {a : Option Addr} {m cp : Nat} {nm tg : ByteArray} {em : Bool} {b : Nat} (h : blk (.agg (tyl k n c vr (.slice a m cp) nm tg em).toArray) b) : (Value.slice a m cp).ownBlock = some b := by
  obtain ⟨l, e, q, s, n', k', h⟩ := h
  cases e
  simp at h
  rw [h.1]
  rfl
theorem own_blk {k n c : Int} {vr : Bool} {a : Option Addr} {m cp : Nat} {nm tg : ByteArray} {em : Bool} {b : Nat} (h : (Value.slice a m cp).ownBlock = some b) : blk (.agg (tyl k n c vr (.slice a m cp) nm tg em).toArray) b := by
  cases a with
  | none => cases h
  | some a =>
    obtain ⟨q, s, t⟩ := a
    obtain rfl : q = b := by simpa [Value.ownBlock] using h
    exact ⟨_, rfl, s, t, m, cp, rfl⟩

set_option maxHeartbeats 8000000 in
theorem n_function {l1 l2 : List Ty} {a1 a2 : Option Addr} {cp1 cp2 : Nat} {vr : Bool} {w : World} {p : Nat → Prop} (ht1 : TysV w p a1 cp1 l1) (ht2 : TysV w p a2 cp2 l2) (hp : ∀ b, p b → b < w.heap.size) (hl1 : l1.length ≤ 2097152) (hl2 : l2.length ≤ 2097152) : Calls Tryz.prog 38 #[.slice a1 l1.length cp1, .slice a2 l2.length cp2, .bool vr] w (Ret (Mk w p (fnT l1 l2 vr))) := by
  refine W.enter (args := [.slice a1 l1.length cp1, .slice a2 l2.length cp2, .bool vr]) Tryz.func38 rfl Tryz.ntmps38 rfl rfl ?_
  refine zst ?_
  refine WU.stp rfl rfl rfl stp_alloc ?_
  rintro _ w1 ⟨b2, rfl, n1⟩
  have ib2 : Has w1 b2 (.cells zT.toArray 26) := n1.has
  refine zst ?_
  refine WU.stp rfl rfl rfl stp_alloc ?_
  rintro _ w2 ⟨b3, rfl, n2⟩
  refine WU.stp0 rfl rfl (stp_store_whole rfl rfl rfl rfl) ?_
  rintro _ w2' u2
  have ne2 := n1.num
  have ne3 := n2.num
  have sz1 := n1.size
  have sz2 := n2.size
  have su2 := u2.size
  have ib2' : Has w2' b2 (.cells zT.toArray 26) := u2.keep (ib2.ext' n2.ext) (by omega)
  have ib3' : Has w2' b3 (.cells (tyl 8 0 l1.length vr (.slice none 0 0) E0 E0 false).toArray 26) := u2.has
  have x2 : Ext w w2' := n1.ext.trans (u2.ofNew n2).ext
  refine zst ?_
  refine W.loop (σ := Nat × Value) (fun (k, _) => [(18, .int .i64 k), (17, .int .i64 l1.length), (16, .slice a1 l1.length cp1), (7, pt b3), (6, pt b2), (1, .slice a2 l2.length cp2)])
    (fun (k, v) D' wr => D' = [] ∧ k ≤ l1.length ∧ Ext w wr ∧ ∃ R, Own wr w2'.heap.size 26 8 v R ∧ (R.length = k ∧ Rws w p R (l1 ++ l2)) ∧ Has wr b3 (.cells (tyl 8 0 l1.length vr v E0 E0 false).toArray 26) ∧ Has wr b2 (.cells zT.toArray 26))
    (fun (k, _) => l1.length - k) (0, .slice none 0 0) ⟨rfl, Nat.zero_le _, x2, [], Own.nil .., ⟨rfl, fun i r e h => by simp at h⟩, ib3', ib2'⟩ (by exact sub_of ⟨rfl, rfl, rfl, rfl, rfl, rfl, trivial⟩) ?_
  rintro ⟨k, v⟩ D' wr ⟨rfl, hk, xr, R, ho, hR, ibx, hres⟩
  have hsz := xr.size
  have hb3 := ibx.lt
  have hbs : w2'.heap.size ≤ wr.heap.size := by omega
  refine zst ?_
  by_cases hlt : k < l1.length
  · rw [show decide ((k : Int) < (l1.length : Int)) = true by simpa using hlt]
    have he := List.getElem?_eq_getElem hlt
    generalize l1[k] = e at he
    obtain ⟨b, o, a3, c3, rfl, hpb, hc, hte⟩ := ht1.next he
    have hc' : Cells wr b (o + k * 8) (tyc e a3 c3) := hc.ext xr
    refine zst ?_
    refine WU.yld rfl rfl rfl (yld_load_cells rfl hc') ?_
    refine WU.stp rfl rfl rfl stp_alloc ?_
    rintro _ w3 ⟨b9, rfl, n3⟩
    refine WU.stp0 rfl rfl (stp_store_whole rfl rfl rfl rfl) ?_
    rintro _ w4 u4
    have x4 : Ext wr w4 := (u4.ofNew n3).ext
    have i4 : Has w4 b9 (.cells (tyc e a3 c3).toArray 26) := u4.has
    have ibx4 := ibx.ext' x4
    have nb9 := n3.num
    clear u4
    refine zst ?_
    obtain ⟨F, hFd⟩ : ∃ F : World → Prop, ∀ W, F W ↔ (Has W b9 (.cells (tyc e a3 c3).toArray 26) ∧ Has W b3 (.cells (tyl 8 0 l1.length vr v E0 E0 false).toArray 26)) := ⟨fun W => (Has W b9 (.cells (tyc e a3 c3).toArray 26) ∧ Has W b3 (.cells (tyl 8 0 l1.length vr v E0 E0 false).toArray 26)), fun _ => Iff.rfl⟩
    refine W.regR (R := fun a b => F a → F b) (fun _ h => h) (fun _ _ _ h k x => k (h x)) [(0, .q), (1, .q), (2, .q), (3, .l), (4, .l), (5, .l), (6, .q), (7, .z)] (by kernel_rfl) (by kernel_rfl) rfl ?_
    intro w5 x5 _
    have hF : F w5 := (hFd _).2 ⟨i4.ext' x5, ibx4.ext' x5⟩
    (repeat (first
        | refine WR.nilk ?_
        | refine WR.nil ?_
        | refine WR.yld (fun _ h => h) rfl rfl rfl rfl (fun w' hx => by obtain ⟨i1, i2⟩ := (hFd _).1 (hx hF); first | exact zyl | (exact by first | exact yld_load_cells rfl (Cells.has i1) | exact yld_load_cells rfl (Cells.has i2)) | exact yld_indexAddr_arr rfl rfl (by omega)) ?_
        | refine WR.skip rfl rfl rfl rfl ?_))
    refine WR.stp rfl rfl rfl rfl (stp_call rfl (c_element e.kind e.n e.count e.vr a3 e.elems.length c3 e.name e.tag e.emb w5)) ?_
    rintro _ w6 ⟨rfl, x6⟩
    have hF : F w6 := (hFd _).2 ⟨((hFd _).1 hF).1.ext' x6, ((hFd _).1 hF).2.ext' x6⟩
    refine ⟨fun _ => hF, ?_⟩
    (repeat (first
        | refine WR.nilk ?_
        | refine WR.nil ?_
        | refine WR.yld (fun _ h => h) rfl rfl rfl rfl (fun w' hx => by obtain ⟨i1, i2⟩ := (hFd _).1 (hx hF); first | exact zyl | (exact by first | exact yld_load_cells rfl (Cells.has i1) | exact yld_load_cells rfl (Cells.has i2)) | exact yld_indexAddr_arr rfl rfl (by omega)) ?_
        | refine WR.skip rfl rfl rfl rfl ?_))
    refine WR.stp rfl rfl rfl rfl (stp_buildSlice rfl rfl rfl rfl rfl) ?_
    rintro _ w7 ⟨b7, rfl, n7⟩
    have hF : F w7 := (hFd _).2 ⟨((hFd _).1 hF).1.ext' n7.ext, ((hFd _).1 hF).2.ext' n7.ext⟩
    refine ⟨fun _ => hF, ?_⟩
    (repeat (first
        | refine WR.nilk ?_
        | refine WR.nil ?_
        | refine WR.yld (fun _ h => h) rfl rfl rfl rfl (fun w' hx => by obtain ⟨i1, i2⟩ := (hFd _).1 (hx hF); first | exact zyl | (exact by first | exact yld_load_cells rfl (Cells.has i1) | exact yld_load_cells rfl (Cells.has i2)) | exact yld_indexAddr_arr rfl rfl (by omega)) ?_
        | refine WR.skip rfl rfl rfl rfl ?_))
    have x47 := (x4.trans x5).trans (x6.trans n7.ext)
    have ho7 := ho.ext x47
    have s7 := x47.size
    have i7 : Has w7 b7 (.cells (tyc (elT e) a3 c3).toArray 26) := n7.has
    refine WR.stp rfl rfl rfl rfl (stp_append1 (el := 26) rfl rfl ho7 (Cells.has i7) rfl rfl (by omega) (by simp [Value.oneCell']) (by have := hR.1; omega) (by omega)) ?_
    rintro v' w8 ⟨o8, a8, g8⟩
    have hF : F w8 := by
      obtain ⟨i1, i2⟩ := (hFd _).1 hF
      exact (hFd _).2 ⟨a8.keep i1 fun g hg => by have := ho.lt g hg; omega, a8.keep i2 fun g hg => by have := ho.lt g hg; omega⟩
    refine ⟨fun _ => hF, ?_⟩
    (repeat (first
        | refine WR.nilk ?_
        | refine WR.nil ?_
        | refine WR.yld (fun _ h => h) rfl rfl rfl rfl (fun w' hx => by obtain ⟨i1, i2⟩ := (hFd _).1 (hx hF); first | exact zyl | (exact by first | exact yld_load_cells rfl (Cells.has i1) | exact yld_load_cells rfl (Cells.has i2)) | exact yld_indexAddr_arr rfl rfl (by omega)) ?_
        | refine WR.skip rfl rfl rfl rfl ?_))
    have jbx := ((hFd _).1 hF).2
    refine WR.last0 rfl rfl rfl (stp_store_cell rfl rfl rfl (by obtain ⟨a', cp', e', _⟩ := o8.shape; rw [e']; rfl)) ?_
    rintro _ w9 u9
    (repeat (first
        | refine WR.nilk ?_
        | refine WR.nil ?_
        | refine WR.yld (fun _ h => h) rfl rfl rfl rfl (fun w' hx => by obtain ⟨i1, i2⟩ := (hFd _).1 (hx hF); first | exact zyl | (exact by first | exact yld_load_cells rfl (Cells.has i1) | exact yld_load_cells rfl (Cells.has i2)) | exact yld_indexAddr_arr rfl rfl (by omega)) ?_
        | refine WR.skip rfl rfl rfl rfl ?_))
    refine zst ?_
    have x8 := a8.ext ho7 (xr.trans x47) (by omega)
    have x9 := u9.ext x8 (by omega)
    refine ⟨(k + 1, v'), by show l1.length - (k + 1) < l1.length - k; omega, ⟨rfl, by omega, x9, R ++ [tyc (elT e) a3 c3], o8.upd u9 (fun g hg => by have := o8.lt g hg; omega), ⟨by rw [List.length_append, hR.1]; rfl, rows_snoc (l := l1 ++ l2) hR.1 hR.2 (by rw [List.getElem?_append_left (by omega)]; exact he) ((TyV.of_tys (t := elT e) hte))⟩, u9.has, u9.keep (a8.keep (hres.ext' x47) fun g hg => by have := ho.lt g hg; omega) (by omega)⟩, sub_of ⟨rfl, rfl, rfl, rfl, rfl, rfl, trivial⟩⟩
  · rw [show decide ((k : Int) < (l1.length : Int)) = false by simpa using hlt]
    obtain rfl : k = l1.length := by omega
    refine zst ?_
    refine W.loop (σ := Nat × Value) (fun (k, _) => [(32, .int .i64 k), (31, .int .i64 l2.length), (30, .slice a2 l2.length cp2), (7, pt b3), (6, pt b2)])
      (fun (k, v) D' wr => D' = [] ∧ k ≤ l2.length ∧ Ext w wr ∧ ∃ R, Own wr w2'.heap.size 26 8 v R ∧ (R.length = l1.length + k ∧ Rws w p R (l1 ++ l2)) ∧ Has wr b3 (.cells (tyl 8 0 l1.length vr v E0 E0 false).toArray 26) ∧ Has wr b2 (.cells zT.toArray 26))
      (fun (k, _) => l2.length - k) (0, v) ⟨rfl, Nat.zero_le _, xr, R, ho, hR, ibx, hres⟩ (by exact sub_of ⟨rfl, rfl, rfl, rfl, rfl, trivial⟩) ?_
    clear ho hR ibx hres xr hsz hb3 hbs
    rintro ⟨k, v⟩ D' wr ⟨rfl, hk, xr, R, ho, hR, ibx, hres⟩
    have hsz := xr.size
    have hb3 := ibx.lt
    have hbs : w2'.heap.size ≤ wr.heap.size := by omega
    refine zst ?_
    by_cases hlt : k < l2.length
    · rw [show decide ((k : Int) < (l2.length : Int)) = true by simpa using hlt]
      have he := List.getElem?_eq_getElem hlt
      generalize l2[k] = e at he
      obtain ⟨b, o, a3, c3, rfl, hpb, hc, hte⟩ := ht2.next he
      have hc' : Cells wr b (o + k * 8) (tyc e a3 c3) := hc.ext xr
      refine zst ?_
      refine WU.yld rfl rfl rfl (yld_load_cells rfl hc') ?_
      refine WU.stp rfl rfl rfl stp_alloc ?_
      rintro _ w3 ⟨b9, rfl, n3⟩
      refine WU.stp0 rfl rfl (stp_store_whole rfl rfl rfl rfl) ?_
      rintro _ w4 u4
      have x4 : Ext wr w4 := (u4.ofNew n3).ext
      have i4 : Has w4 b9 (.cells (tyc e a3 c3).toArray 26) := u4.has
      have ibx4 := ibx.ext' x4
      have nb9 := n3.num
      clear u4
      refine zst ?_
      obtain ⟨F, hFd⟩ : ∃ F : World → Prop, ∀ W, F W ↔ (Has W b9 (.cells (tyc e a3 c3).toArray 26) ∧ Has W b3 (.cells (tyl 8 0 l1.length vr v E0 E0 false).toArray 26)) := ⟨fun W => (Has W b9 (.cells (tyc e a3 c3).toArray 26) ∧ Has W b3 (.cells (tyl 8 0 l1.length vr v E0 E0 false).toArray 26)), fun _ => Iff.rfl⟩
      refine W.regR (R := fun a b => F a → F b) (fun _ h => h) (fun _ _ _ h k x => k (h x)) [(0, .q), (1, .q), (2, .q), (3, .l), (4, .l), (5, .l), (6, .q), (7, .z)] (by kernel_rfl) (by kernel_rfl) rfl ?_
      intro w5 x5 _
      have hF : F w5 := (hFd _).2 ⟨i4.ext' x5, ibx4.ext' x5⟩
      (repeat (first
          | refine WR.nilk ?_
          | refine WR.nil ?_
          | refine WR.yld (fun _ h => h) rfl rfl rfl rfl (fun w' hx => by obtain ⟨i1, i2⟩ := (hFd _).1 (hx hF); first | exact zyl | (exact by first | exact yld_load_cells rfl (Cells.has i1) | exact yld_load_cells rfl (Cells.has i2)) | exact yld_indexAddr_arr rfl rfl (by omega)) ?_
          | refine WR.skip rfl rfl rfl rfl ?_))
      refine WR.stp rfl rfl rfl rfl (stp_call rfl (c_element e.kind e.n e.count e.vr a3 e.elems.length c3 e.name e.tag e.emb w5)) ?_
      rintro _ w6 ⟨rfl, x6⟩
      have hF : F w6 := (hFd _).2 ⟨((hFd _).1 hF).1.ext' x6, ((hFd _).1 hF).2.ext' x6⟩
      refine ⟨fun _ => hF, ?_⟩
      (repeat (first
          | refine WR.nilk ?_
          | refine WR.nil ?_
          | refine WR.yld (fun _ h => h) rfl rfl rfl rfl (fun w' hx => by obtain ⟨i1, i2⟩ := (hFd _).1 (hx hF); first | exact zyl | (exact by first | exact yld_load_cells rfl (Cells.has i1) | exact yld_load_cells rfl (Cells.has i2)) | exact yld_indexAddr_arr rfl rfl (by omega)) ?_
          | refine WR.skip rfl rfl rfl rfl ?_))
      refine WR.stp rfl rfl rfl rfl (stp_buildSlice rfl rfl rfl rfl rfl) ?_
      rintro _ w7 ⟨b7, rfl, n7⟩
      have hF : F w7 := (hFd _).2 ⟨((hFd _).1 hF).1.ext' n7.ext, ((hFd _).1 hF).2.ext' n7.ext⟩
      refine ⟨fun _ => hF, ?_⟩
      (repeat (first
          | refine WR.nilk ?_
          | refine WR.nil ?_
          | refine WR.yld (fun _ h => h) rfl rfl rfl rfl (fun w' hx => by obtain ⟨i1, i2⟩ := (hFd _).1 (hx hF); first | exact zyl | (exact by first | exact yld_load_cells rfl (Cells.has i1) | exact yld_load_cells rfl (Cells.has i2)) | exact yld_indexAddr_arr rfl rfl (by omega)) ?_
          | refine WR.skip rfl rfl rfl rfl ?_))
      have x47 := (x4.trans x5).trans (x6.trans n7.ext)
      have ho7 := ho.ext x47
      have s7 := x47.size
      have i7 : Has w7 b7 (.cells (tyc (elT e) a3 c3).toArray 26) := n7.has
      refine WR.stp rfl rfl rfl rfl (stp_append1 (el := 26) rfl rfl ho7 (Cells.has i7) rfl rfl (by omega) (by simp [Value.oneCell']) (by have := hR.1; omega) (by omega)) ?_
      rintro v' w8 ⟨o8, a8, g8⟩
      have hF : F w8 := by
        obtain ⟨i1, i2⟩ := (hFd _).1 hF
        exact (hFd _).2 ⟨a8.keep i1 fun g hg => by have := ho.lt g hg; omega, a8.keep i2 fun g hg => by have := ho.lt g hg; omega⟩
      refine ⟨fun _ => hF, ?_⟩
      (repeat (first
          | refine WR.nilk ?_
          | refine WR.nil ?_
          | refine WR.yld (fun _ h => h) rfl rfl rfl rfl (fun w' hx => by obtain ⟨i1, i2⟩ := (hFd _).1 (hx hF); first | exact zyl | (exact by first | exact yld_load_cells rfl (Cells.has i1) | exact yld_load_cells rfl (Cells.has i2)) | exact yld_indexAddr_arr rfl rfl (by omega)) ?_
          | refine WR.skip rfl rfl rfl rfl ?_))
      have jbx := ((hFd _).1 hF).2
      refine WR.last0 rfl rfl rfl (stp_store_cell rfl rfl rfl (by obtain ⟨a', cp', e', _⟩ := o8.shape; rw [e']; rfl)) ?_
      rintro _ w9 u9
      (repeat (first
          | refine WR.nilk ?_
          | refine WR.nil ?_
          | refine WR.yld (fun _ h => h) rfl rfl rfl rfl (fun w' hx => by obtain ⟨i1, i2⟩ := (hFd _).1 (hx hF); first | exact zyl | (exact by first | exact yld_load_cells rfl (Cells.has i1) | exact yld_load_cells rfl (Cells.has i2)) | exact yld_indexAddr_arr rfl rfl (by omega)) ?_
          | refine WR.skip rfl rfl rfl rfl ?_))
      refine zst ?_
      have x8 := a8.ext ho7 (xr.trans x47) (by omega)
      have x9 := u9.ext x8 (by omega)
      refine ⟨(k + 1, v'), by show l2.length - (k + 1) < l2.length - k; omega, ⟨rfl, by omega, x9, R ++ [tyc (elT e) a3 c3], o8.upd u9 (fun g hg => by have := o8.lt g hg; omega), ⟨by rw [List.length_append, hR.1]; rfl, rows_snoc (l := l1 ++ l2) hR.1 hR.2 (by rw [List.getElem?_append_right (by omega), show l1.length + k - l1.length = k by omega]; exact he) ((TyV.of_tys (t := elT e) hte))⟩, u9.has, u9.keep (a8.keep (hres.ext' x47) fun g hg => by have := ho.lt g hg; omega) (by omega)⟩, sub_of ⟨rfl, rfl, rfl, rfl, rfl, trivial⟩⟩
    · rw [show decide ((k : Int) < (l2.length : Int)) = false by simpa using hlt]
      obtain ⟨a', cp', rfl, h1, h2⟩ := own_tys ho (by rw [hR.1, List.length_append]; omega) hR.2 xr (n0 := w.heap.size) (by omega)
      refine zst ?_
      refine WU.stp0 rfl rfl (stp_store_whole rfl rfl rfl rfl) ?_
      rintro _ w9 u9
      refine zst ?_
      have x9 := u9.ext xr (by omega)
      refine finc (.inl rfl) rfl rfl ⟨⟨a', cp', by rw [show (l1 ++ l2).length = (fnT l1 l2 vr).elems.length from (List.length_map _).symm]; rfl, ?_⟩, fun b hb => ?_, x9⟩
      · exact (h1.upd u9 (fun hq => by rcases hq with hq | hq; (have := hp b2 hq; omega); (have := ho.lt b2 hq; omega))).mono fun b hb => hb.elim .inl fun hb => .inr (own_blk hb)
      · have := h2 b (blk_own hb)
        have := u9.size
        omega
end Go.Proofs.YtpiegpegjbmlkaaGreatDoor.Law
namespace Go.Proofs.YtpiegpegjbmlkaaGreatDoor.Law
open Go Go.Kd
set_option maxRecDepth 100000

/-- a slice of types -/
structure LsV (w : World) (v : Value) (l : List Ty) : Prop where
  ex : ∃ a c, v = .slice a l.length c ∧ TysV w (fun b => b < w.heap.size) a c l
theorem LsV.ext {w w' : World} (x : Ext w w') {v : Value} {l : List Ty} (h : LsV w v l) : LsV w' v l := by
  obtain ⟨a, c, h1, h2⟩ := h.ex
  exact ⟨a, c, h1, (h2.ext x).mono fun b hb => by have := x.size; omega⟩
theorem n_functionN {l1 l2 : List Ty} {a1 a2 : Option Addr} {cp1 cp2 n1 n2 : Nat} {vr : Bool} {w : World} {p : Nat → Prop} (h1 : l1.length = n1) (h2 : l2.length = n2) (ht1 : TysV w p a1 cp1 l1) (ht2 : TysV w p a2 cp2 l2) (hp : ∀ b, p b → b < w.heap.size) (hl1 : n1 ≤ 2097152) (hl2 : n2 ≤ 2097152) : Calls Tryz.prog 38 #[.slice a1 n1 cp1, .slice a2 n2 cp2, .bool vr] w (Ret (Mk w p (fnT l1 l2 vr))) := by
  subst h1 h2
  exact n_function ht1 ht2 hp hl1 hl2
theorem t_function {l1 l2 : List Ty} {v1 v2 : Value} {vr : Bool} {w : World} (h1 : LsV w v1 l1) (h2 : LsV w v2 l2) (hl1 : l1.length ≤ 2097152) (hl2 : l2.length ≤ 2097152) : Calls Tryz.prog 38 #[v1, v2, .bool vr] w (Ret fun r w' => TvV w' r (fnT l1 l2 vr) ∧ Ext w w') := by
  obtain ⟨a1, c1, rfl, ht1⟩ := h1.ex
  obtain ⟨a2, c2, rfl, ht2⟩ := h2.ex
  exact toV (n_function ht1 ht2 (fun b hb => hb) hl1 hl2)
/-- valid types with their trees -/
def VXs (D : List De) (n : Nat) (l : List Ty) (xs : List X) : Prop := xs.length = l.length ∧ ∀ (i : Nat) e x, l[i]? = some e → xs[i]? = some x → VX D n e x
theorem VXs.of {D : List De} (hD : OkD D) (hV : ValidD D) {n : Nat} (hn : n ≤ 16777216) : ∀ (l : List Ty), (∀ t ∈ l, ValidT D t) → wts l ≤ n → ∃ xs, VXs D n l xs
  | [], _, _ => ⟨[], rfl, fun i e x h => by simp at h⟩
  | t :: r, h, hw => by
    simp only [wts] at hw
    obtain ⟨x, hx⟩ := VX.ofT hD hV (n := n) (h t (List.mem_cons_self ..)) (by omega) hn
    obtain ⟨xs, hl, hxs⟩ := VXs.of hD hV hn r (fun u hu => h u (List.mem_cons_of_mem _ hu)) (by omega)
    refine ⟨x :: xs, by simp [hl], fun i e y he hy => ?_⟩
    match i with
    | 0 => simp at he hy; subst he hy; exact hx
    | i + 1 => exact hxs i e y (by simpa using he) (by simpa using hy)
/-- a function type's parts -/
theorem VX.fn {D : List De} (hD : OkD D) (hV : ValidD D) {n : Nat} (hn : n ≤ 4194304) {l1 l2 : List Ty} {vr : Bool} (h : ValidT D (fnT l1 l2 vr)) (h1 : wts l1 ≤ n) (h2 : wts l2 ≤ n) : ∃ xs ys, VXs D n l1 xs ∧ VXs D n l2 ys ∧ VX D (1 + (n + n)) (fnT l1 l2 vr) (fnX xs.length vr (xs ++ ys)) := by
  obtain ⟨xs, hx⟩ := VXs.of hD hV (n := n) (by omega) l1 (fun t ht => valid_fn h t (List.mem_append_left _ ht)) h1
  obtain ⟨ys, hy⟩ := VXs.of hD hV (n := n) (by omega) l2 (fun t ht => valid_fn h t (List.mem_append_right _ ht)) h2
  refine ⟨xs, ys, hx, hy, ?_⟩
  have hw : Go.Proofs.YtpiegpegjbmlkaaGreatDoor.wt (fnT l1 l2 vr) ≤ 1 + (n + n) := Nat.le_trans (wt_fn l1 l2 vr) (by omega)
  rw [hx.1]
  refine .of hD hV h hw (by omega) (exp_fn (by rw [List.length_append, List.length_append, hx.1, hy.1]) fun i e x he hxi => ?_)
  rcases Nat.lt_or_ge i l1.length with hi | hi
  · rw [List.getElem?_append_left hi] at he
    rw [List.getElem?_append_left (by rw [hx.1]; exact hi)] at hxi
    exact (hx.2 i e x he hxi).ex
  · rw [List.getElem?_append_right hi] at he
    rw [List.getElem?_append_right (by rw [hx.1]; exact hi), hx.1] at hxi
    exact (hy.2 _ e x he hxi).ex
end Go.Proofs.YtpiegpegjbmlkaaGreatDoor.Law
namespace Go.Proofs.YtpiegpegjbmlkaaGreatDoor
open Go Go.Kd Go.ChangeShapes Go.WideShapes Go.ChangeAt Go.RowKit
set_option maxRecDepth 100000
variable {H : Type} {enc : TypeId × Value → H} {W : World} {sp : Nat → Bool} {held : Bool}

theorem tys_of {v : Value} {base : Nat} {d : DataW H} {ps : List MemPlace} (hv : Value.okWide Tryz.prog W .any base 24 v) (h : DataW.Trod enc Tryz.prog W 0 sp held 24 v d ps) : ∃ (l : List Ty) (a : Option Addr) (cp : Nat), v = .slice a l.length cp ∧ TysV W (fun b => b < W.heap.size) a cp l ∧ wts l + 1 ≤ Rows.uptoBulk d := by
  obtain ⟨a0, len, cap, rfl⟩ := okWide_slice Tryz.underlying24 hv
  obtain ⟨fuel, hf⟩ := h
  obtain ⟨a, cp, es, f, he, hcp, hsl, hR, hB⟩ := slice_open (TyV W (fun b => b < W.heap.size)) wt Tryz.underlying24 cT (by decide) hf fun q _ => ty_open q
  exact ⟨es, a, cp, he, ⟨hcp, f, hsl, hR⟩, by rw [wts_sum]; exact hB⟩
end Go.Proofs.YtpiegpegjbmlkaaGreatDoor
namespace Go.Kd
section
variable {P : Program} {n : Nat} {ops : List Oper} {Q : Post} {D : List Deferred} {e : Env} {w : World} {R : World → World → Prop}
/-- some operations are done; k are left -/
structure WX (R : World → World → Prop) (P : Program) (n : Nat) (ops : List Oper) (Q : Post) (listed : Array Bool) (k : Nat) (D : List Deferred) (e : Env) (w : World) : Prop where
  out : Closed .any ops.toArray listed → ∀ a, Fr n D e a → wpER R P .any ops.toArray (post n Q) k listed a w
theorem W.regX2 [hm : Mixed P] {id : Nat} {l : List Oper} (R : World → World → Prop) (h : ∀ w', Ext w w' → w'.heap = w.heap → WX R P n l Q (Array.replicate l.length false) l.length D e w') : W P n (.region id l.toArray true) Q D e w := ⟨fun a ha => by
  refine wp_region_any hm.mixed (wpAny_of_wpER (R := R) _ _ _ _ ?_)
  have hx : Ext w { w with drawn := w.drawn + 1 } := ⟨⟨rfl, rfl, rfl, Nat.le_refl _, fun _ _ => rfl⟩⟩
  have := (h _ hx rfl).out (fun k ok _ h => by simp [Array.getD] at h) a ha
  simpa using this⟩
/-- the rest in one order -/
theorem WX.lin {listed : Array Bool} {k : Nat} (hrr : ∀ w, R w w) (ht : ∀ a b c, R a b → R b c → R a c) (L : List (Nat × Kn)) (hs : Region.noSelect ops.toArray = true) (hL : ordOk .any ops.toArray L listed = true) (hlen : L.length = k) (h : WR R P n ops Q L D e w) : WX R P n ops Q listed k D e w := ⟨fun hcl a ha => by
  subst hlen
  exact wpER_of_wpLR (md := .any) (Q := post n Q) hrr ht (fun c a w hq => hq) hs L listed a w hcl hL (h.out a ha)⟩
/-- a quiet one first -/
theorem WX.q {listed : Array Bool} {k : Nat} (hrr : ∀ w, R w w) (ht : ∀ a b c, R a b → R b c → R a c) (i : Nat) {o : Oper} {d : Nat} {v : Value} (hs : Region.noSelect ops.toArray = true) (hr : (Region.ready .any ops.toArray listed).contains i = true) (hf : Region.free .any ops.toArray listed i = true) (hi : ops[i]? = some o) (hd : o.dst = some d) (hl : Nat.blt d n = true)
    (hg : wn ops e o.guard = some true) (h : ∀ w', R w w' → Yld P e o v w') (hk : WX R P n ops Q (listed.setIfInBounds i true) k D ((d, v) :: e) w) : WX R P n ops Q listed (k + 1) D e w := ⟨fun hcl a ha => by
  have hr' : i ∈ Region.ready .any ops.toArray listed := by simpa using hr
  have hi' : ops.toArray[i]? = some o := by simpa using hi
  have hp : Fr n D ((d, v) :: e) (a.put o.dst v) := by rw [hd]; exact ha.put (by simpa [Nat.blt_eq] using hl) v
  exact wpER_first hrr ht hi' (Region.noSelect_spec hs) (fun c a w hq => hq) k listed a w hcl (Region.free_spec hi' hf) hr' (.inl ⟨wn_spec hg ha, fun w' hx => (h w' hx).out _ ha.ag w' (Ext.rfl' w')⟩) (hk.out (hcl.step hr') _ hp)⟩
/-- one of two comes next -/
theorem WX.two {listed : Array Bool} {k i j : Nat} {o o' : Oper} {d d' : Nat} {S S' : Value → World → Prop} (hr : (Region.ready .any ops.toArray listed == [i, j]) = true)
    (hi : ops[i]? = some o) (hd : o.dst = some d) (hl : Nat.blt d n = true) (hg : wn ops e o.guard = some true) (h : Stp P e o w S)
    (hi' : ops[j]? = some o') (hd' : o'.dst = some d') (hl' : Nat.blt d' n = true) (hg' : wn ops e o'.guard = some true) (h' : Stp P e o' w S')
    (hk : ∀ v w', S v w' → R w w' ∧ WX R P n ops Q (listed.setIfInBounds i true) k D ((d, v) :: e) w') (hk' : ∀ v w', S' v w' → R w w' ∧ WX R P n ops Q (listed.setIfInBounds j true) k D ((d', v) :: e) w') :
    WX R P n ops Q listed (k + 1) D e w := ⟨fun hcl a ha => by
  have hrr : Region.ready .any ops.toArray listed = [i, j] := by simpa using hr
  have hri : i ∈ Region.ready .any ops.toArray listed := by rw [hrr]; simp
  have hrj : j ∈ Region.ready .any ops.toArray listed := by rw [hrr]; simp
  have hi2 : ops.toArray[i]? = some o := by simpa using hi
  have hj2 : ops.toArray[j]? = some o' := by simpa using hi'
  refine ⟨fun h0 => (by rw [h0] at hrr; cases hrr), fun m hm => ?_⟩
  rw [hrr] at hm
  simp only [List.mem_cons, List.not_mem_nil, or_false] at hm
  unfold wpOp
  rcases hm with rfl | rfl
  · simp only [hi2]
    rw [wn_spec hg ha, if_pos rfl]
    exact .inl (upon_of_stp ha h fun v w' hR => ⟨.inl (hk v w' hR).1, (hk v w' hR).2.out (hcl.step hri) _ (by rw [hd]; exact ha.put (by simpa [Nat.blt_eq] using hl) v)⟩)
  · simp only [hj2]
    rw [wn_spec hg' ha, if_pos rfl]
    exact .inl (upon_of_stp ha h' fun v w' hR => ⟨.inl (hk' v w' hR).1, (hk' v w' hR).2.out (hcl.step hrj) _ (by rw [hd']; exact ha.put (by simpa [Nat.blt_eq] using hl') v)⟩)⟩
end
end Go.Kd

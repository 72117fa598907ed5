/- The walks and the plain laws, part 3. -/
import Derived.Test.YtelmnkfdpnkpoaaGreatDoorY2
import Derived.Shelf.SlSortCmp.NoneTotal
import Derived.Ground.SlsfProg
import Derived.RangeFuncRecord
import Derived.Conc.MuLone
import Derived.Laws.LoneSync
namespace Go.Proofs.YtelmnkfdpnkpoaaGreatDoor
open Go Go.Kd
set_option maxRecDepth 100000

instance : MthQ Tryz.prog 98 "Id" 125 := mthQ_of (by kernel_rfl)
instance : MthQ Tryz.prog 102 "Id" 125 := mthQ_of (by kernel_rfl)
abbrev tOS : Nat := 232
abbrev tVA : Nat := 98
abbrev tFN : Nat := 102
theorem bel_new {B : Nat} {w0 w w' : World} {b : Nat} {o : Obj} (h : RowKit.Below B w0 w) (n : New w b o w') (hb : B ≤ w.heap.size) : RowKit.Below B w0 w' := h.trans (n.ext.below.mono hb)
theorem bel_ext {B : Nat} {w0 w w' : World} (h : RowKit.Below B w0 w) (n : Ext w w') (hb : B ≤ w.heap.size) : RowKit.Below B w0 w' := h.trans (n.below.mono hb)
theorem bel_upd {B : Nat} {w0 w w' : World} {b : Nat} {o : Obj} (h : RowKit.Below B w0 w) (u : Upd w b o w') (hb : B ≤ b) : RowKit.Below B w0 w' :=
  ⟨u.os.trans h.os, u.tape.trans h.tape, u.output.trans h.output, by rw [u.size]; exact h.size, fun k hk => by rw [u.oth k (by omega)]; exact h.block k hk⟩
theorem bel_Ext {w w' : World} (h : RowKit.Below w.heap.size w w') : Ext w w' := ⟨h⟩
theorem Has.bel {B : Nat} {w w' : World} {b : Nat} {o : Obj} (x : RowKit.Below B w w') (hb : b < B) (h : Has w b o) : Has w' b o := ⟨(x.block b hb).trans h.at_⟩

theorem RowP.ext {w w' : World} (x : Ext w w') {t : Nat} {a : Option Addr} {n : Nat} {f : Nat → Nat} (h : RowP w t a n f) : RowP w' t a n f := fun i hi => by
  obtain ⟨b, cs, h1, h2, h3⟩ := h i hi
  exact ⟨b, cs, h1, h2.ext' x, h3⟩
theorem RowP.cell {w : World} {t : Nat} {a : Option Addr} {n : Nat} {f : Nat → Nat} (h : RowP w t a n f) {i : Nat} (hi : i < n) : ∃ b, a = some ⟨b, 0, none⟩ ∧ w.cell? ⟨b, 0 + i * 1, none⟩ = some (pt (f i)) := by
  obtain ⟨b, cs, h1, h2, h3⟩ := h i hi
  exact ⟨b, h1, by rw [Nat.mul_one, Nat.zero_add]; exact cell_of h2 h3⟩

structure OSet (w : World) (base ps : Nat) (l : List (List UInt8 × Value)) : Prop where
  bs : base ≤ ps
  ifs : ∀ p ∈ l, ∃ T v, p.2 = .iface T v
  at_ : (Has w ps (.cells #[.map none] tOS) ∧ l = []) ∨ ∃ r es c, base ≤ r ∧ r ≠ ps ∧ Has w ps (.cells #[.map (some r)] tOS) ∧ Has w r (.map es c) ∧ SM es.toList l ∧ l ≠ []
theorem OSet.ext {w w' : World} {base ps : Nat} {l : List (List UInt8 × Value)} (x : Ext w w') (h : OSet w base ps l) : OSet w' base ps l := ⟨h.bs, h.ifs, by
  rcases h.at_ with ⟨h1, h2⟩ | ⟨r, es, c, h1, h2, h3, h4, h5⟩
  · exact .inl ⟨h1.ext' x, h2⟩
  · exact .inr ⟨r, es, c, h1, h2, h3.ext' x, h4.ext' x, h5⟩⟩
theorem OSet.upd {w w' : World} {base ps : Nat} {l : List (List UInt8 × Value)} {b : Nat} {o : Obj} (h : OSet w base ps l) (u : Upd w b o w') (hb : b ≠ ps) (hm : ∀ es c, ¬ Has w b (.map es c)) : OSet w' base ps l := ⟨h.bs, h.ifs, by
  rcases h.at_ with ⟨h1, h2⟩ | ⟨r, es, c, h1, h2, h3, h4, h5⟩
  · exact .inl ⟨⟨(u.oth _ (Ne.symm hb)).trans h1.at_⟩, h2⟩
  · exact .inr ⟨r, es, c, h1, h2, ⟨(u.oth _ (Ne.symm hb)).trans h3.at_⟩, ⟨(u.oth _ (fun e => hm es c (e ▸ h4))).trans h4.at_⟩, h5⟩⟩

set_option maxHeartbeats 1000000 in
theorem c_insert (T base ps b : Nat) [MthQ Tryz.prog T "Id" 125] (l : List (List UInt8 × Value)) (pk : Value) (nm path : ByteArray) (v : Value) (w : World) (hO : OSet w base ps l) (hb : base ≤ w.heap.size)
    (hp : Prp w) (ho : ObjV w b pk nm v) (hk : PkV w nm pk path) (ha : Asc nm) (hz : path.size + nm.size ≤ 4611686018427387904) :
    Calls Tryz.prog 132 #[pt ps, .iface T (pt b)] w (Ret fun r w' => RowKit.Below base w w' ∧
      (((∃ p ∈ l, p.1 = idS nm.toList path.toList) ∧ (∃ T' v', r = .iface T' v') ∧ OSet w' base ps l) ∨
       ((∀ p ∈ l, p.1 ≠ idS nm.toList path.toList) ∧ r = .nilIface ∧ OSet w' base ps (l ++ [(idS nm.toList path.toList, .iface T (pt b))]))) ∧
      ∀ d o, d < w.heap.size → d ≠ ps → w.heap[d]? = some o → (∀ es c, o = .map es c → l ≠ [] → ¬ SM es.toList l) → w'.heap[d]? = some o) := by
  have hif : ∀ p ∈ l ++ [(idS nm.toList path.toList, Value.iface T (pt b))], ∃ T v, p.2 = .iface T v := fun p hp => by
    rcases List.mem_append.1 hp with h | h
    · exact hO.ifs p h
    · simp at h; subst h; exact ⟨_, _, rfl⟩
  refine W.enter (args := [pt ps, .iface T (pt b)]) Tryz.func132 rfl Tryz.ntmps132 rfl rfl ?_
  refine zst ?_
  refine WU.stp rfl rfl rfl (stp_invokeQ rfl rfl (c_Id b pk nm path v w hp ho hk ha hz)) ?_
  rintro _ w1 ⟨⟨s, rfl, hs⟩, x1⟩
  have hO1 := hO.ext x1
  have hb1 : base ≤ w1.heap.size := Nat.le_trans hb x1.size
  rcases hO1.at_ with ⟨h1, rfl⟩ | ⟨r, es, c, h1, h2, h3, h4, h5, hln⟩
  · refine zst ?_
    refine WU.yld rfl rfl rfl (yld_lookupS_nil rfl rfl) ?_
    refine zst ?_
    refine WU.stp rfl rfl rfl stp_makeMap ?_
    rintro _ w2 ⟨m, rfl, n2⟩
    have h1' := h1.ext' n2.ext
    refine zst ?_
    refine WU.stp0 rfl rfl (stp_store_cell rfl rfl rfl rfl) ?_
    rintro _ w3 u3
    have hne : m ≠ ps := fun e => by have := n2.num; have := h1.lt; omega
    have hm3 : Has w3 m (.map #[] 0) := ⟨(u3.oth m hne).trans n2.has.at_⟩
    refine zst ?_
    refine WU.stp0 rfl rfl (stp_mapNewS rfl rfl rfl hm3 rfl) ?_
    rintro _ w4 u4
    refine zst ?_
    refine fin1 (.inl rfl) rfl rfl ⟨?_, .inr ⟨fun p hp => (by cases hp), rfl, ⟨hO.bs, hif, .inr ⟨m, _, _, by have := n2.num; omega, hne, ⟨(u4.oth ps (Ne.symm hne)).trans u3.has.at_⟩, u4.has, ?_⟩⟩⟩, fun d o hd hdp ho _ => ?_⟩
    · exact bel_upd (bel_upd (bel_new (x1.below.mono hb) n2 hb1) u3 hO.bs) u4 (by have := n2.num; omega)
    · exact ⟨⟨⟨s, rfl, hs⟩, rfl, trivial⟩, by simp⟩
    · have hs2 := n2.num
      have hs1 := x1.size
      rw [u4.oth d (by omega), u3.oth d hdp, n2.ext.below.block d (by omega), x1.below.block d hd]
      exact ho
  · by_cases hin : ∃ p ∈ l, p.1 = s.toList
    · obtain ⟨j, p, k1, k2, k3⟩ := findNow_str_yes s es.toList l 0 h5 hin
      obtain ⟨T', v', hv'⟩ := hO.ifs p k1
      refine zst ?_
      refine WU.stp rfl rfl rfl (stp_lookupS rfl rfl h4 k3 rfl) ?_
      rintro _ _ ⟨rfl, rfl⟩
      dsimp only
      rw [hv']
      refine zst ?_
      exact fin1 (.inl rfl) rfl rfl ⟨x1.below.mono hb, .inl ⟨⟨p, k1, by rw [← hs, k2]⟩, ⟨_, _, rfl⟩, hO1⟩, fun d o hd _ ho _ => (x1.below.block d hd).trans ho⟩
    · have hno : ∀ p ∈ l, p.1 ≠ s.toList := fun p hp e => hin ⟨p, hp, e⟩
      have k3 := findNow_str s es.toList l 0 h5 hno
      refine zst ?_
      refine WU.stp rfl rfl rfl (stp_lookupS rfl rfl h4 k3 rfl) ?_
      rintro _ _ ⟨rfl, rfl⟩
      dsimp only
      refine zst ?_
      refine WU.stp0 rfl rfl (stp_mapNewS rfl rfl rfl h4 k3) ?_
      rintro _ w4 u4
      refine zst ?_
      refine fin1 (.inl rfl) rfl rfl ⟨bel_upd (x1.below.mono hb) u4 h1, .inr ⟨by rw [← hs]; exact hno, rfl, ⟨hO.bs, hif, .inr ⟨r, _, _, h1, h2, ⟨(u4.oth ps (Ne.symm h2)).trans h3.at_⟩, u4.has, ?_⟩⟩⟩, fun d o hd hdp ho hno => ?_⟩
      · refine ⟨?_, by simp⟩
        rw [Array.toList_push]
        exact h5.push ⟨s, rfl, hs⟩ rfl
      · have h6 := (x1.below.block d hd).trans ho
        rw [u4.oth d fun e => ?_]
        · exact h6
        · subst e
          have h7 := h4.at_.symm.trans h6
          simp only [Option.some.injEq] at h7
          exact hno es c h7.symm hln h5

theorem c_markComplete (b : Nat) (fa ta : Option Addr) (n fc tn tc : Nat) (w : World) (h : Has w b (.cells #[.slice fa n fc, .slice ta tn tc] 183)) (hn : fa = none → n = 0) :
    Calls Tryz.prog 136 #[pt b] w (Ret fun _ w' => ∃ fa' fc', (fa ≠ none → fa' = fa) ∧ (Has w' b (.cells #[.slice fa' n fc', .slice ta tn tc] 183)) ∧ RowKit.Below b w w') := by
  refine W.enter (args := [pt b]) Tryz.func136 rfl Tryz.ntmps136 rfl rfl ?_
  refine zst ?_
  cases fa with
  | none =>
    obtain rfl := hn rfl
    refine zst ?_
    refine WU.stp rfl rfl rfl (stp_makeSlice (n := 0) rfl rfl (by omega)) ?_
    rintro _ w1 ⟨b1, rfl, n1⟩
    have h1 := h.ext' n1.ext
    refine zst ?_
    refine WU.stp0 rfl rfl (stp_store_cell rfl rfl rfl rfl) ?_
    rintro _ w2 u2
    refine zst ?_
    exact fin0 (.inr rfl) rfl ⟨_, _, fun h => absurd rfl h, u2.has, bel_upd (n1.ext.below.mono (by have := h.lt; omega)) u2 (Nat.le_refl _)⟩
  | some a =>
    refine zst ?_
    exact fin0 (.inr rfl) rfl ⟨_, _, fun _ => rfl, h, RowKit.Below.refl ..⟩

theorem us_bytes : (⟨#[95]⟩ : ByteArray).toList = us := by rw [Lib.toList_data]; rfl
/-! ### Ids are told apart -/
theorem letter46 : letter 46 = false := by decide
theorem digit46 : digit 46 = false := by decide
theorem Ident.nodot {s : List UInt8} (h : Ident s) : ∀ c ∈ s, c ≠ 46 := fun c hc e => by
  subst e
  rcases h.at_ with h1 | h1
  · rw [h1] at hc; simp [us] at hc
  · obtain ⟨i, hi, he⟩ := List.mem_iff_getElem.1 hc
    rcases h1 i 46 (by rw [List.getElem?_eq_getElem hi, he]) with h2 | ⟨_, h2⟩
    · rw [letter46] at h2; cases h2
    · rw [digit46] at h2; cases h2
theorem dot_split : ∀ {p q a b : List UInt8}, (∀ c ∈ p, c ≠ 46) → (∀ c ∈ q, c ≠ 46) → p ++ 46 :: a = q ++ 46 :: b → p = q ∧ a = b
  | [], [], _, _, _, _, h => ⟨rfl, by simpa using h⟩
  | [], c :: q, _, _, _, hq, h => by simp at h; exact absurd h.1.symm (hq c (List.mem_cons_self ..))
  | c :: p, [], _, _, hp, _, h => by simp at h; exact absurd h.1 (hp c (List.mem_cons_self ..))
  | c :: p, d :: q, a, b, hp, hq, h => by
    simp only [List.cons_append, List.cons.injEq] at h
    obtain ⟨h1, h2⟩ := dot_split (fun c hc => hp c (List.mem_cons_of_mem _ hc)) (fun c hc => hq c (List.mem_cons_of_mem _ hc)) h.2
    exact ⟨by rw [h.1, h1], h2⟩
theorem idS_inj {a b p q : List UInt8} (ha : Ident a) (hb : Ident b) (hp : ∀ c ∈ p, c ≠ 46) (hq : ∀ c ∈ q, c ≠ 46) (h : idS a p = idS b q) : a = b ∧ (expo a = true ∨ p = q) := by
  unfold idS at h
  cases h1 : expo a <;> cases h2 : expo b <;> simp only [h1, h2, if_true, if_false, Bool.false_eq_true] at h
  · obtain ⟨h3, h4⟩ := dot_split hp hq h
    exact ⟨h4, .inr h3⟩
  · exact absurd rfl (hb.nodot 46 (by rw [← h]; simp))
  · exact absurd rfl (ha.nodot 46 (by rw [h]; simp))
  · exact ⟨h, .inl rfl⟩

set_option maxHeartbeats 1000000 in
theorem c_NewStruct (fa ta : Option Addr) (n fc tn tc : Nat) (vb : Nat → Nat) (nm : Nat → ByteArray) (vv : Nat → Value) (em : Nat → Bool) (pk : Value) (path : ByteArray) (w : World) (hp : Prp w)
    (hr : RowP w 98 fa n vb) (hv : ∀ i, i < n → VarV w (vb i) pk (nm i) (vv i) 6 (em i)) (hk : ∀ i, i < n → PkV w (nm i) pk path) (hid : ∀ i, i < n → Ident (nm i).toList) (hpd : ∀ c ∈ path.toList, c ≠ 46)
    (hun : ∀ i j, i < j → j < n → (nm i).toList = (nm j).toList → (nm i).toList = us) (hz : ∀ i, i < n → path.size + (nm i).size ≤ 4611686018427387904) (hn : n ≤ 1073741824) (htn : tn ≤ n) :
    Calls Tryz.prog 99 #[.slice fa n fc, .slice ta tn tc] w (Ret fun r w' => ∃ b fa' fc', r = pt b ∧ (fa ≠ none → fa' = fa) ∧ w.heap.size ≤ b ∧ Has w' b (.cells #[.slice fa' n fc', .slice ta tn tc] 183) ∧ Ext w w') := by
  refine W.enter (args := [.slice fa n fc, .slice ta tn tc]) Tryz.func99 rfl Tryz.ntmps99 rfl rfl ?_
  refine zst ?_
  refine WU.stp rfl rfl rfl stp_alloc ?_
  rintro _ w1 ⟨b1, rfl, n1⟩
  refine zst ?_
  refine W.loop (σ := Nat) (fun k => [(11, .int .i64 k), (10, .int .i64 n), (9, .slice fa n fc), (5, .pointer (some ⟨b1, 0, none⟩)), (1, .slice ta tn tc), (0, .slice fa n fc)])
    (fun k D' wk => D' = [] ∧ k ≤ n ∧ Ext w wk ∧ w.heap.size < wk.heap.size ∧ ∃ l, OSet wk w.heap.size b1 l ∧ ∀ p ∈ l, ∃ j, j < k ∧ (nm j).toList ≠ us ∧ p.1 = idS (nm j).toList path.toList)
    (fun k => n - k) 0 ⟨rfl, Nat.zero_le _, n1.ext, by rw [n1.size]; omega, [], ⟨by rw [n1.num]; exact Nat.le_refl _, fun p hp => (by cases hp), .inl ⟨n1.has, rfl⟩⟩, fun p hp => (by cases hp)⟩ (by exact sub_of ⟨rfl, rfl, rfl, rfl, rfl, rfl, trivial⟩) ?_
  rintro k D' wk ⟨rfl, hk', xk, hsz, l, hO, hl⟩
  refine zst ?_
  by_cases hlt : k < n
  · rw [show decide ((k : Int) < (n : Int)) = true by simpa using hlt]
    obtain ⟨rb, rfl, hrc⟩ := (hr.ext xk).cell hlt
    have hvk := hv k hlt
    have hvw : VarV wk (vb k) pk (nm k) (vv k) 6 (em k) := hvk.ext' xk
    have hvw' : Has wk (vb k) (.cells #[.int .i64 0, pk, .string (nm k), vv k, .int .u8 6, .bool (em k)] 185) := hvw
    refine zst ?_
    refine WU.yld rfl rfl rfl (yld_load_c rfl hrc) ?_
    refine zst ?_
    rw [us_bytes]
    cases hus : ((nm k).toList == us)
    · refine zst ?_
      have hne : (nm k).toList ≠ us := fun e => by rw [e] at hus; simp at hus
      refine WU.stp rfl rfl rfl (stp_call rfl (c_insert 98 w.heap.size b1 (vb k) l pk (nm k) path (vv k) wk hO xk.size (hp.ext xk) hvw.obj ((hk k hlt).ext xk) (hid k hlt).asc (hz k hlt))) ?_
      rintro r wl ⟨bl, (⟨⟨p, hp1, hp2⟩, _, _⟩ | ⟨h1, rfl, h2⟩), _⟩
      · exfalso
        obtain ⟨j, hj, hj2, hj3⟩ := hl p hp1
        rw [hj3] at hp2
        have := (idS_inj (hid j (by omega)) (hid k hlt) hpd hpd hp2).1
        exact hj2 (hun j k hj hlt this)
      · refine zst ?_
        exact ⟨k + 1, by omega, ⟨rfl, by omega, ⟨xk.below.trans bl⟩, Nat.lt_of_lt_of_le hsz bl.size, _, h2, fun p hp => by
          rcases List.mem_append.1 hp with h | h
          · obtain ⟨j, hj, hj2, hj3⟩ := hl p h
            exact ⟨j, by omega, hj2, hj3⟩
          · simp at h; subst h; exact ⟨k, by omega, hne, rfl⟩⟩, sub_of ⟨rfl, rfl, rfl, rfl, rfl, rfl, trivial⟩⟩
    · refine zst ?_
      exact ⟨k + 1, by omega, ⟨rfl, by omega, xk, hsz, l, hO, fun p hp => by
          obtain ⟨j, hj, hj2, hj3⟩ := hl p hp
          exact ⟨j, by omega, hj2, hj3⟩⟩, sub_of ⟨rfl, rfl, rfl, rfl, rfl, rfl, trivial⟩⟩
  · rw [show decide ((k : Int) < (n : Int)) = false by simpa using hlt]
    refine zst ?_
    rw [show decide ((tn : Int) > (n : Int)) = false by simp; omega]
    refine zst ?_
    refine WU.stp rfl rfl rfl (by first | exact stp_box rfl rfl | exact stp_box1 rfl rfl) ?_
    rintro _ w3 ⟨b3, rfl, n3⟩
    refine zst ?_
    refine WU.stp rfl rfl rfl (stp_call rfl (c_markComplete b3 fa ta n fc tn tc w3 n3.has fun h => ?_)) ?_
    · subst h
      by_cases h0 : n = 0
      · exact h0
      · obtain ⟨rb, cs, h1, _⟩ := hr 0 (by omega)
        cases h1
    rintro _ w4 ⟨fa', fc', h1, h2, h3⟩
    refine zst ?_
    have hge : w.heap.size ≤ b3 := by have := n3.num; omega
    exact fin1 (.inl rfl) rfl rfl ⟨b3, fa', fc', rfl, h1, hge, h2, ⟨(xk.trans n3.ext).below.trans (h3.mono hge)⟩⟩
end Go.Proofs.YtelmnkfdpnkpoaaGreatDoor
namespace Go.Proofs.YtelmnkfdpnkpoaaGreatDoor
open Go Go.Kd Go.Shelf
set_option maxRecDepth 100000
def sortM_ren : Go.Shelf.Ren := ⟨fun | 6 => 157 | 15 => 179 | 14 => 178 | 28 => 204 | 29 => 205 | 20 => 196 | 21 => 197 | 22 => 198 | 23 => 199 | 24 => 200 | 25 => 201 | 26 => 202 | 27 => 203 | 46 => 208 | 47 => 209 | 48 => 210 | 49 => 211 | 50 => 212 | 57 => 216 | n => n, fun | 22 => 130 | 24 => 102 | 25 => 279 | 3 => 3 | 39 => 296 | 0 => 0 | 53 => 139 | 55 => 326 | 4 => 4 | 46 => 318 | 45 => 317 | 50 => 322 | 5 => 5 | 9 => 9 | 66 => 338 | 70 => 342 | 76 => 354 | 77 => 355 | n => n, fun | n => n⟩
theorem sortM : Go.Proofs.SlLaysF.n6 Tryz.prog sortM_ren := {
  mixed := by kernel_rfl
  f6 := ⟨Tryz.f157.name, by decide, Tryz.func157.trans (congrArg some (by kernel_rfl))⟩
  f14 := ⟨Tryz.f178.name, by decide, Tryz.func178.trans (congrArg some (by kernel_rfl))⟩
  f15 := Tryz.func179.trans (congrArg some (by kernel_rfl))
  f20 := ⟨Tryz.f196.name, by decide, Tryz.func196.trans (congrArg some (by kernel_rfl))⟩
  f21 := ⟨Tryz.f197.name, by decide, Tryz.func197.trans (congrArg some (by kernel_rfl))⟩
  f22 := ⟨Tryz.f198.name, by decide, Tryz.func198.trans (congrArg some (by kernel_rfl))⟩
  f23 := ⟨Tryz.f199.name, by decide, Tryz.func199.trans (congrArg some (by kernel_rfl))⟩
  f24 := ⟨Tryz.f200.name, by decide, Tryz.func200.trans (congrArg some (by kernel_rfl))⟩
  f25 := ⟨Tryz.f201.name, by decide, Tryz.func201.trans (congrArg some (by kernel_rfl))⟩
  f26 := ⟨Tryz.f202.name, by decide, Tryz.func202.trans (congrArg some (by kernel_rfl))⟩
  f27 := ⟨Tryz.f203.name, by decide, Tryz.func203.trans (congrArg some (by kernel_rfl))⟩
  f28 := Tryz.func204.trans (congrArg some (by kernel_rfl))
  f29 := Tryz.func205.trans (congrArg some (by kernel_rfl))
  f46 := ⟨Tryz.f208.name, by decide, Tryz.func208.trans (congrArg some (by kernel_rfl))⟩
  f47 := Tryz.func209.trans (congrArg some (by kernel_rfl))
  f48 := Tryz.func210.trans (congrArg some (by kernel_rfl))
  f49 := ⟨Tryz.f211.name, by decide, Tryz.func211.trans (congrArg some (by kernel_rfl))⟩
  f50 := ⟨Tryz.f212.name, by decide, Tryz.func212.trans (congrArg some (by kernel_rfl))⟩
  f57 := ⟨Tryz.f216.name, by decide, Tryz.func216.trans (congrArg some (by kernel_rfl))⟩
  t0 := Tryz.underlying0
  a0 := Tryz.isAgg0
  z0 := Tryz.sizeOf0
  v0 := Tryz.zeroValue0
  t3 := Tryz.underlying3
  a3 := Tryz.isAgg3
  z3 := Tryz.sizeOf3
  v3 := Tryz.zeroValue3
  t4 := Tryz.underlying4
  a4 := Tryz.isAgg4
  z4 := Tryz.sizeOf4
  v4 := Tryz.zeroValue4
  t5 := Tryz.underlying5
  a5 := Tryz.isAgg5
  z5 := Tryz.sizeOf5
  v5 := Tryz.zeroValue5
  t9 := Tryz.underlying9
  a9 := Tryz.isAgg9
  z9 := Tryz.sizeOf9
  v9 := Tryz.zeroValue9
  t22 := Tryz.underlying130
  a22 := Tryz.isAgg130
  z22 := Tryz.sizeOf130
  v22 := Tryz.zeroValue130
  a24 := Tryz.isAgg102
  z24 := Tryz.sizeOf102
  t25 := Tryz.underlying279
  a25 := Tryz.isAgg279
  z25 := Tryz.sizeOf279
  v25 := Tryz.zeroValue279
  t39 := Tryz.underlying296
  a39 := Tryz.isAgg296
  z39 := Tryz.sizeOf296
  v39 := Tryz.zeroValue296
  t45 := Tryz.underlying317
  a45 := Tryz.isAgg317
  z45 := Tryz.sizeOf317
  v45 := Tryz.zeroValue317
  t46 := Tryz.underlying318
  a46 := Tryz.isAgg318
  z46 := Tryz.sizeOf318
  v46 := Tryz.zeroValue318
  t50 := Tryz.underlying322
  a50 := Tryz.isAgg322
  z50 := Tryz.sizeOf322
  v50 := Tryz.zeroValue322
  t53 := Tryz.underlying139
  a53 := Tryz.isAgg139
  z53 := Tryz.sizeOf139
  v53 := Tryz.zeroValue139
  t55 := Tryz.underlying326
  a55 := Tryz.isAgg326
  z55 := Tryz.sizeOf326
  v55 := Tryz.zeroValue326
  t66 := Tryz.underlying338
  a66 := Tryz.isAgg338
  z66 := Tryz.sizeOf338
  v66 := Tryz.zeroValue338
  t70 := Tryz.underlying342
  a70 := Tryz.isAgg342
  z70 := Tryz.sizeOf342
  v70 := Tryz.zeroValue342
  t76 := Tryz.underlying354
  a76 := Tryz.isAgg354
  z76 := Tryz.sizeOf354
  v76 := Tryz.zeroValue354
  t77 := Tryz.underlying355
  a77 := Tryz.isAgg355
  z77 := Tryz.sizeOf355
  v77 := Tryz.zeroValue355 }

/-! ### The order -/
theorem cb_anti : ∀ a b, Lib.compareBytes b a = - Lib.compareBytes a b
  | [], [] => rfl
  | [], _ :: _ => rfl
  | _ :: _, [] => rfl
  | a :: s, b :: t => by
    unfold Lib.compareBytes
    have ih := cb_anti s t
    have h1 := @UInt8.lt_iff_toNat_lt a b
    have h2 := @UInt8.lt_iff_toNat_lt b a
    by_cases h : a < b
    · have h' : ¬ b < a := by rw [h2]; rw [h1] at h; omega
      simp only [h, h', if_true, if_false]; rfl
    · by_cases h' : b < a
      · simp only [h, h', if_true, if_false]
      · simp only [h, h', if_false, ih]
theorem cb_zero : ∀ a b, Lib.compareBytes a b = 0 → a = b
  | [], [], _ => rfl
  | [], _ :: _, h => by simp [Lib.compareBytes] at h
  | _ :: _, [], h => by simp [Lib.compareBytes] at h
  | a :: s, b :: t, h => by
    unfold Lib.compareBytes at h
    have h1 := @UInt8.lt_iff_toNat_lt a b
    have h2 := @UInt8.lt_iff_toNat_lt b a
    by_cases k : a < b
    · rw [if_pos k] at h; omega
    · by_cases k' : b < a
      · rw [if_neg k, if_pos k'] at h; omega
      · rw [if_neg k, if_neg k'] at h
        have : a = b := UInt8.toNat_inj.1 (by rw [h1] at k; rw [h2] at k'; omega)
        rw [this, cb_zero s t h]
theorem cb_trans : ∀ a b c, Lib.compareBytes a b < 0 → Lib.compareBytes b c < 0 → Lib.compareBytes a c < 0
  | [], [], _, h, _ => by simp [Lib.compareBytes] at h
  | [], _ :: _, [], _, h => by simp [Lib.compareBytes] at h
  | [], _ :: _, _ :: _, _, _ => by simp [Lib.compareBytes]
  | _ :: _, [], _, h, _ => by simp [Lib.compareBytes] at h
  | _ :: _, _ :: _, [], _, h => by simp [Lib.compareBytes] at h
  | a :: s, b :: t, c :: u, h, k => by
    unfold Lib.compareBytes at h k ⊢
    have h1 := @UInt8.lt_iff_toNat_lt a b
    have h2 := @UInt8.lt_iff_toNat_lt b a
    have h3 := @UInt8.lt_iff_toNat_lt b c
    have h4 := @UInt8.lt_iff_toNat_lt c b
    have h5 := @UInt8.lt_iff_toNat_lt a c
    have h6 := @UInt8.lt_iff_toNat_lt c a
    simp only [h1, h2] at h
    simp only [h3, h4] at k
    simp only [h5, h6]
    clear h1 h2 h3 h4 h5 h6
    have ih := cb_trans s t u
    by_cases e1 : a.toNat < b.toNat
    · by_cases e2 : b.toNat < c.toNat
      · rw [if_pos (by omega)]; omega
      · by_cases e3 : c.toNat < b.toNat
        · rw [if_neg e2, if_pos e3] at k; omega
        · rw [if_pos (by omega)]; omega
    · by_cases e4 : b.toNat < a.toNat
      · rw [if_neg e1, if_pos e4] at h; omega
      · rw [if_neg e1, if_neg e4] at h
        by_cases e2 : b.toNat < c.toNat
        · rw [if_pos (by omega)]; omega
        · by_cases e3 : c.toNat < b.toNat
          · rw [if_neg e2, if_pos e3] at k; omega
          · rw [if_neg e2, if_neg e3] at k
            rw [if_neg (by omega), if_neg (by omega)]
            exact ih h k
def c3 (e e' q : Bool) (x y : Int) : Int := if e != e' then (if e then -1 else 1) else if !q then x else if !e then y else 0
theorem cmpN_c3 (s p s' p' : List UInt8) : cmpN s p s' p' = c3 (expo s) (expo s') (s == s') (Lib.compareBytes s s') (Lib.compareBytes p p') := rfl
theorem c3_anti (e e' q : Bool) (x y : Int) : c3 e' e q (-x) (-y) = - c3 e e' q x y := by
  cases e <;> cases e' <;> cases q <;> simp [c3]
theorem c3_lt (e e' q : Bool) (x y : Int) : c3 e e' q x y < 0 ↔ (e = true ∧ e' = false) ∨ (e = e' ∧ q = false ∧ x < 0) ∨ (e = e' ∧ q = true ∧ e = false ∧ y < 0) := by
  cases e <;> cases e' <;> cases q <;> simp [c3]
theorem c3_zero (e e' q : Bool) (x y : Int) : c3 e e' q x y = 0 ↔ e = e' ∧ (q = false ∧ x = 0 ∨ q = true ∧ (e = true ∨ y = 0)) := by
  cases e <;> cases e' <;> cases q <;> simp [c3]
theorem cmpN_anti (s p s' p' : List UInt8) : cmpN s' p' s p = - cmpN s p s' p' := by
  have hc : (s' == s) = (s == s') := by rw [Bool.eq_iff_iff, beq_iff_eq, beq_iff_eq]; exact eq_comm
  rw [cmpN_c3, cmpN_c3, hc, cb_anti s s', cb_anti p p', c3_anti]
theorem cmpN_lt {s p s' p' : List UInt8} : cmpN s p s' p' < 0 ↔ (expo s = true ∧ expo s' = false) ∨ (expo s = expo s' ∧ Lib.compareBytes s s' < 0) ∨ (s = s' ∧ expo s = false ∧ Lib.compareBytes p p' < 0) := by
  rw [cmpN_c3, c3_lt]
  constructor
  · rintro (h | ⟨h1, _, h2⟩ | ⟨_, h2, h3, h4⟩)
    · exact .inl h
    · exact .inr (.inl ⟨h1, h2⟩)
    · exact .inr (.inr ⟨by rwa [beq_iff_eq] at h2, h3, h4⟩)
  · rintro (h | ⟨h1, h2⟩ | ⟨rfl, h3, h4⟩)
    · exact .inl h
    · refine .inr (.inl ⟨h1, ?_, h2⟩)
      rw [beq_eq_false_iff_ne]
      rintro rfl
      rw [compareBytes_self] at h2
      omega
    · exact .inr (.inr ⟨rfl, beq_self_eq_true _, h3, h4⟩)
theorem cmpN_zero {s p s' p' : List UInt8} (h : cmpN s p s' p' = 0) : idS s p = idS s' p' := by
  rw [cmpN_c3, c3_zero] at h
  obtain ⟨h1, ⟨h2, h3⟩ | ⟨h2, h3⟩⟩ := h
  · rw [cb_zero _ _ h3, beq_self_eq_true] at h2
    cases h2
  · rw [beq_iff_eq] at h2
    subst h2
    unfold idS
    rcases h3 with h3 | h3
    · rw [if_pos h3, if_pos h3]
    · rw [cb_zero _ _ h3]
theorem cmpN_trans {a p b q c r : List UInt8} (h : cmpN a p b q < 0) (k : cmpN b q c r < 0) : cmpN a p c r < 0 := by
  rw [cmpN_lt] at *
  rcases h with ⟨h1, h2⟩ | ⟨h1, h2⟩ | ⟨rfl, h1, h2⟩ <;> rcases k with ⟨k1, k2⟩ | ⟨k1, k2⟩ | ⟨rfl, k1, k2⟩
  · exact .inl ⟨h1, k2⟩
  · exact .inl ⟨h1, by rw [← k1, h2]⟩
  · exact .inl ⟨h1, h2⟩
  · exact .inl ⟨by rw [h1, k1], k2⟩
  · exact .inr (.inl ⟨h1.trans k1, cb_trans _ _ _ h2 k2⟩)
  · exact .inr (.inl ⟨h1, h2⟩)
  · exact .inl ⟨k1, k2⟩
  · exact .inr (.inl ⟨k1, k2⟩)
  · exact .inr (.inr ⟨rfl, h1, cb_trans _ _ _ h2 k2⟩)
end Go.Proofs.YtelmnkfdpnkpoaaGreatDoor
namespace Go.Proofs.YtelmnkfdpnkpoaaGreatDoor
open Go Go.Kd Go.Shelf Go.RowKit Go.Lib Go.Sort
set_option maxRecDepth 100000

section
variable {α : Type} [Inhabited α] {enc : α → Value} {w : World} {blk m : Nat} {d : Array α} {os : Array Obj}
theorem sw_heap {b : Nat} (hb : b < w.heap.size) (hne : b ≠ blk) : (sortWorld enc w blk 0 m d os).heap[b]? = w.heap[b]? := by
  show ((w.heap.modify blk (onCells (putCells enc 0 d))) ++ os)[b]? = _
  rw [Array.getElem?_append_left (by rw [Array.size_modify]; exact hb), Array.getElem?_modify, if_neg (Ne.symm hne)]
theorem sw_blk {cs : Array Value} {t : TypeId} {fz : Nat × Nat} (h : w.heap[blk]? = some (.cells cs t fz)) : (sortWorld enc w blk 0 m d os).heap[blk]? = some (.cells (putCells enc 0 d cs) t fz) := by
  have hb := (Array.getElem?_eq_some_iff.1 h).1
  show ((w.heap.modify blk (onCells (putCells enc 0 d))) ++ os)[blk]? = _
  rw [Array.getElem?_append_left (by rw [Array.size_modify]; exact hb), Array.getElem?_modify, if_pos rfl, h]
  rfl
theorem sw_size : w.heap.size ≤ (sortWorld enc w blk 0 m d os).heap.size := by
  show w.heap.size ≤ ((w.heap.modify blk (onCells (putCells enc 0 d))) ++ os).size
  simp
end

/-- what a row of functions is told by: blocks, packages, names, paths -/
structure FRow (w : World) (n : Nat) (fb : Nat → Nat) (pk : Nat → Value) (nm path : Nat → ByteArray) (vv : Nat → Value) : Prop where
  fn : ∀ i, i < n → FuncV w (fb i) (pk i) (nm i) (vv i)
  pkv : ∀ i, i < n → PkV w (nm i) (pk i) (path i)
  asc : ∀ i, i < n → Asc (nm i)
  dis : ∀ i j, i < n → j < n → idS (nm i).toList (path i).toList = idS (nm j).toList (path j).toList → i = j
theorem FRow.same {w : World} {n : Nat} {fb : Nat → Nat} {pk : Nat → Value} {nm path : Nat → ByteArray} {vv : Nat → Value} (h : FRow w n fb pk nm path vv) {i j : Nat} (hi : i < n) (hj : j < n) (he : fb i = fb j) : path i = path j := by
  suffices i = j by rw [this]
  have h1 := h.fn i hi
  have h2 := h.fn j hj
  unfold FuncV at h1 h2
  rw [he] at h1
  have h3 := h1.at_.symm.trans h2.at_
  simp only [Option.some.injEq, Obj.cells.injEq] at h3
  have h4 := congrArg Array.toList h3.1
  simp only [List.cons.injEq, Value.string.injEq] at h4
  obtain ⟨-, h5, h6, -⟩ := h4
  refine h.dis i j hi hj ?_
  unfold idS
  rw [h6]
  cases hx : expo (nm j).toList
  · obtain ⟨c, n1, k1, k2, _⟩ := (h.pkv i hi).at_ (by rw [h6]; exact hx)
    obtain ⟨c', n2, k3, k4, _⟩ := (h.pkv j hj).at_ hx
    rw [h5, k3] at k1
    simp at k1
    subst k1
    have k5 := k2.at_.symm.trans k4.at_
    simp at k5
    rw [k5.1]
  · rfl

/-- the world behind a sort: the row's block alone has turned -/
structure Srt (w w' : World) (ma : Option Addr) : Prop where
  os : w'.os = w.os
  tape : w'.tape = w.tape
  output : w'.output = w.output
  size : w.heap.size ≤ w'.heap.size
  oth : ∀ b, b < w.heap.size → (∀ a, ma = some a → b ≠ a.block) → w'.heap[b]? = w.heap[b]?
theorem Srt.rfl' (w : World) (ma : Option Addr) : Srt w w ma := ⟨rfl, rfl, rfl, Nat.le_refl _, fun _ _ _ => rfl⟩

theorem extract_all {α : Type} {d : Array α} {n : Nat} (h : d.size = n) : d.extract 0 n = d := by subst h; exact Array.extract_size
theorem toList_fin {n : Nat} : (Array.ofFn (fun i : Fin n => i)).toList.map Fin.val = List.range n := by
  apply List.ext_getElem?
  intro i
  by_cases hi : i < n
  · simp [hi]
  · simp [hi]

set_option maxHeartbeats 1000000 in
theorem c_sortMethods (ma : Option Addr) (n mc : Nat) (fb : Nat → Nat) (pk : Nat → Value) (nm path : Nat → ByteArray) (vv : Nat → Value) (w : World) (hp : Prp w) (hr : RowP w 102 ma n fb) (hf : FRow w n fb pk nm path vv) (hn : n ≤ 1073741824)
    (hg : ∀ a, ma = some a → a.block ≠ gP) :
    Calls Tryz.prog 134 #[.slice ma n mc] w (Ret fun _ w' => Srt w w' ma ∧ ∃ σ : List Nat, σ.Perm (List.range n) ∧ RowP w' 102 ma n (fun i => fb (σ.getD i 0)) ∧
      ∀ i j, i < j → j < n → cmpN (nm (σ.getD i 0)).toList (path (σ.getD i 0)).toList (nm (σ.getD j 0)).toList (path (σ.getD j 0)).toList < 0) := by
  refine W.enter (args := [.slice ma n mc]) Tryz.func134 rfl Tryz.ntmps134 rfl rfl ?_
  refine zst ?_
  have key : Calls Tryz.prog 157 #[.slice ma n mc, .func (.func 158) #[] #[]] w (Ret fun _ w' => Srt w w' ma ∧ ∃ σ : List Nat, σ.Perm (List.range n) ∧ RowP w' 102 ma n (fun i => fb (σ.getD i 0)) ∧
      ∀ i j, i < j → j < n → cmpN (nm (σ.getD i 0)).toList (path (σ.getD i 0)).toList (nm (σ.getD j 0)).toList (path (σ.getD j 0)).toList < 0) := by
    cases n with
    | zero =>
      refine (AnyF.slices_SortFunc_none (P := Tryz.prog) (ρ := sortM_ren) { sortM with } ma mc (.func (.func 158) #[] #[]) w).mono ?_
      rintro e w' ⟨rfl, rfl⟩
      exact ⟨_, rfl, Srt.rfl' _ _, [], List.Perm.refl _, fun i hi => by omega, fun i j _ hj => by omega⟩
    | succ n0 =>
      obtain ⟨blk, cs, hma, hblk, _⟩ := hr 0 (by omega)
      subst hma
      have hcs : ∀ i, i < n0 + 1 → cs[i]? = some (pt (fb i)) := fun i hi => by
        obtain ⟨b, cs', h1, h2, h3⟩ := hr i hi
        cases h1
        have := hblk.at_.symm.trans h2.at_
        simp at this
        rw [this]; exact h3
      let enc : Fin (n0 + 1) → Value := fun i => pt (fb i)
      let cf : Fin (n0 + 1) → Fin (n0 + 1) → Int := fun x y => cmpN (nm x).toList (path x).toList (nm y).toList (path y).toList
      let d : Array (Fin (n0 + 1)) := Array.ofFn fun i => i
      have hds : d.size = n0 + 1 := Array.size_ofFn
      have hlt : ∀ x y, ltOf cf x y = true ↔ cf x y < 0 := fun x y => by unfold ltOf; simp
      have hlf : ∀ x y, ltOf cf x y = false ↔ ¬ cf x y < 0 := fun x y => by unfold ltOf; simp
      have hanti : ∀ x y, cf y x = - cf x y := fun x y => cmpN_anti _ _ _ _
      have hzero : ∀ x y, cf x y = 0 → x = y := fun x y h => Fin.ext (hf.dis x y x.isLt y.isLt (cmpN_zero h))
      have hself : ∀ x, cf x x = 0 := fun x => cmpN_self _ _
      have htr : ∀ x y z, cf x y < 0 → cf y z < 0 → cf x z < 0 := fun x y z h k => cmpN_trans h k
      have hO : SWO (ltOf cf) := ⟨fun x => by rw [hlf, hself]; omega, fun x y z h k => by
        rw [hlt] at *
        exact htr x y z h k, fun x y z h k => by
        rw [hlf] at *
        intro hxz
        by_cases e : cf x y = 0
        · rw [hzero x y e] at hxz; exact k hxz
        · have h1 : cf y x < 0 := by rw [hanti]; omega
          exact k (htr y x z h1 hxz)⟩
      have hft : ∀ x : Fin (n0 + 1), fb x ≠ blk := fun x e => by
        have h1 := hf.fn x x.isLt
        unfold FuncV at h1
        rw [e] at h1
        have := hblk.at_.symm.trans h1.at_
        simp at this
      have hcmp : CmpLays1 Tryz.prog 158 #[] enc cf blk 0 d.size w := fun m os dk hs x y => by
        have hsame : ∀ b, b < w.heap.size → b ≠ blk → (sortWorld enc w blk 0 m dk os).heap[b]? = w.heap[b]? := fun b h1 h2 => sw_heap h1 h2
        have hfv : ∀ x : Fin (n0 + 1), FuncV (sortWorld enc w blk 0 m dk os) (fb x) (pk x) (nm x) (vv x) := fun x => by
          have h1 := hf.fn x x.isLt
          unfold FuncV at h1 ⊢
          exact ⟨(hsame _ h1.lt (hft x)).trans h1.at_⟩
        have hpv : ∀ x : Fin (n0 + 1), PkV (sortWorld enc w blk 0 m dk os) (nm x) (pk x) (path x) := fun x => ⟨(hf.pkv x x.isLt).ptr, fun he => by
          obtain ⟨c, n1, h1, h2, h3⟩ := (hf.pkv x x.isLt).at_ he
          refine ⟨c, n1, h1, ⟨(hsame _ h2.lt fun e => ?_).trans h2.at_⟩, h3⟩
          subst e
          have := hblk.at_.symm.trans h2.at_
          simp at this⟩
        refine (c_compareFunc (fb x) (fb y) (pk x) (pk y) (nm x) (nm y) (path x) (path y) (vv x) (vv y) (sortWorld enc w blk 0 m dk os) (hp.same (hsame _ hp.lt (Ne.symm (hg _ rfl)))) (hfv x).obj (hfv y).obj (hpv x) (hpv y) (hf.asc x x.isLt) (hf.asc y y.isLt) (fun e => hf.same x.isLt y.isLt e)).mono ?_
        rintro e w' ⟨v, rfl, rfl, q, rfl⟩
        exact ⟨rfl, q, #[], by rw [grow_empty]⟩
      have hH : Holds enc w blk 0 d := fun j hj => by
        have hj' : j < n0 + 1 := by rw [← hds]; exact hj
        have hdj : d[j]! = ⟨j, hj'⟩ := by
          rw [getElem!_pos d j hj]
          exact Array.getElem_ofFn ..
        refine ⟨?_, ?_⟩
        · rw [hdj, Nat.zero_add]
          exact cell_of hblk (hcs j hj')
        · unfold World.frozen?
          rw [hblk.at_]
          simp
      have hres := Any.slices_SortFunc (P := Tryz.prog) (ρ := sortM_ren) sortM enc (fun _ => rfl) cf hO 158 #[] blk 0 mc d w
        (enters_of Tryz.func158 (by kernel_rfl) rfl) hcmp hH hblk.lt (by rw [hds]; omega)
      rw [hds] at hres
      refine hres.mono ?_
      rintro e w' ⟨rfl, d', q, os, ⟨hp1, hp2, hp3⟩, hs, rfl⟩
      have hd's : d'.size = n0 + 1 := hp1.trans hds
      have hperm : d'.toList.Perm d.toList := by
        rw [extract_all hd's, extract_all hds] at hp3
        exact hp3
      have hnd : (d'.toList.map Fin.val).Nodup := (hperm.map Fin.val).nodup_iff.2 (by rw [show d.toList.map Fin.val = List.range (n0 + 1) from toList_fin]; exact List.nodup_range)
      have hgd : ∀ i, (hi : i < n0 + 1) → (d'.toList.map Fin.val).getD i 0 = (d'[i]!).val := fun i hi => by
        rw [getElem!_pos d' i (by omega)]
        simp [List.getD, hd's, hi]
      refine ⟨_, rfl, ⟨rfl, rfl, rfl, sw_size, fun b hb hne => sw_heap hb (hne _ rfl)⟩, d'.toList.map Fin.val, ?_, fun i hi => ⟨blk, _, rfl, ⟨sw_blk hblk.at_⟩, ?_⟩, fun i j hij hj => ?_⟩
      · rw [← toList_fin]
        exact hperm.map _
      · unfold putCells
        rw [Array.getElem?_mapIdx, hcs i hi, Option.map_some, if_pos ⟨Nat.zero_le _, by omega⟩]
        show some (enc d'[i]!) = some (pt (fb _))
        rw [hgd i hi]
      · rw [hgd i (by omega), hgd j hj]
        have h1 := hs i j (Nat.zero_le _) hij hj
        rw [hlf] at h1
        have h2 := hanti d'[i]! d'[j]!
        show cf d'[i]! d'[j]! < 0
        by_cases h0 : cf d'[i]! d'[j]! = 0
        · exfalso
          have h3 := hzero _ _ h0
          have hi' : i < (d'.toList.map Fin.val).length := by simp [hd's]; omega
          have hj' : j < (d'.toList.map Fin.val).length := by simp [hd's]; omega
          have h4 := (List.getElem_inj (h₀ := hi') (h₁ := hj') hnd).1 (by
            have a1 := hgd i (by omega)
            have a2 := hgd j hj
            rw [List.getD_eq_getElem?_getD, List.getElem?_eq_getElem hi', Option.getD_some] at a1
            rw [List.getD_eq_getElem?_getD, List.getElem?_eq_getElem hj', Option.getD_some] at a2
            rw [a1, a2, h3])
          omega
        · omega
  refine WU.stp rfl rfl rfl (stp_call rfl key) ?_
  rintro v w' h
  refine zst ?_
  exact fin0 (.inr rfl) rfl h
end Go.Proofs.YtelmnkfdpnkpoaaGreatDoor
namespace Go.Proofs.YtelmnkfdpnkpoaaGreatDoor
open Go Go.Kd
set_option maxRecDepth 100000

abbrev tTM : Nat := 241
abbrev tTP : Nat := 239
abbrev tTS : Nat := 215
abbrev tSP : Nat := 104
/-- the term list of all types -/
def AllT (w : World) (v : Value) : Prop := ∃ a c tb, v = .slice a 1 c ∧ RowP w tTP a 1 (fun _ => tb) ∧ Has w tb (.cells #[.bool false, .nilIface] tTM)
instance : Imm tTP := imm_of rfl
theorem AllT.sta {K : Cfg} {l : Nat} {w w' : World} (x : Sta K l w w') {v : Value} (h : AllT w v) : AllT w' v := by
  obtain ⟨a, c, tb, h1, h2, h3⟩ := h
  exact ⟨a, c, tb, h1, h2.sta x, Has.sta x h3⟩
theorem AllT.ext {w w' : World} (x : Ext w w') {v : Value} (h : AllT w v) : AllT w' v := by
  obtain ⟨a, c, tb, h1, h2, h3⟩ := h
  exact ⟨a, c, tb, h1, h2.ext x, h3.ext' x⟩
theorem c_allTermlist (w : World) : Calls Tryz.prog 130 #[] w (Ret fun r w' => AllT w' r ∧ Ext w w') := by
  refine W.enter (args := []) Tryz.func130 rfl Tryz.ntmps130 rfl rfl ?_
  refine zst ?_
  refine WU.stp rfl rfl rfl stp_alloc ?_
  rintro _ w1 ⟨b1, rfl, n1⟩
  refine zst ?_
  refine WU.stp rfl rfl rfl (stp_buildSlice rfl rfl rfl rfl rfl) ?_
  rintro _ w2 ⟨b2, rfl, n2⟩
  refine zst ?_
  refine fin1 (.inl rfl) rfl rfl ⟨⟨_, _, b1, rfl, fun i hi => ⟨b2, _, rfl, n2.has, ?_⟩, n1.has.ext' n2.ext⟩, n1.ext.trans n2.ext⟩
  obtain rfl : i = 0 := by omega
  rfl
theorem c_topTypeSet (w : World) : Calls Tryz.prog 129 #[] w (Ret fun r w' => ∃ b v, r = pt b ∧ w.heap.size ≤ b ∧ Has w' b (.cells #[.bool false, .slice none 0 0, v, .bool false] tTS) ∧ AllT w' v ∧ Ext w w') := by
  refine W.enter (args := []) Tryz.func129 rfl Tryz.ntmps129 rfl rfl ?_
  refine zst ?_
  refine WU.stp rfl rfl rfl (stp_call rfl (c_allTermlist w)) ?_
  rintro v w1 ⟨⟨a, c, tb, rfl, h2, h3⟩, x1⟩
  refine zst ?_
  refine WU.stp rfl rfl rfl (by first | exact stp_box rfl rfl | exact stp_box1 rfl rfl) ?_
  rintro _ w2 ⟨b2, rfl, n2⟩
  refine zst ?_
  have hge : w.heap.size ≤ b2 := by have := n2.num; have := x1.size; omega
  exact fin1 (.inl rfl) rfl rfl ⟨b2, _, rfl, hge, n2.has, ⟨a, c, tb, rfl, h2.ext n2.ext, h3.ext' n2.ext⟩, x1.trans n2.ext⟩
theorem c_newInterface (w : World) : Calls Tryz.prog 137 #[.pointer none] w (Ret fun r w' => ∃ b, r = pt b ∧ New w b (.cells #[.pointer none, .slice none 0 0, .slice none 0 0, .pointer none, .bool false, .bool false, .pointer none] tIF) w') := by
  refine W.enter (args := [.pointer none]) Tryz.func137 rfl Tryz.ntmps137 rfl rfl ?_
  refine zst ?_
  refine WU.stp rfl rfl rfl (by first | exact stp_box rfl rfl | exact stp_box1 rfl rfl) ?_
  rintro _ w1 ⟨b1, rfl, n1⟩
  refine zst ?_
  exact fin1 (.inl rfl) rfl rfl ⟨b1, rfl, n1⟩

def SigP (w : World) (b : Nat) (ps rs : Value) (vr : Bool) : Prop := ∃ rv : Option Addr, Has w b (.cells #[.pointer rv, .pointer none, ps, rs, .bool vr] tSG)
/-- only these two blocks have turned -/
structure Oth (w w' : World) (b : Nat) (ma : Option Addr) : Prop where
  os : w'.os = w.os
  tape : w'.tape = w.tape
  output : w'.output = w.output
  size : w.heap.size ≤ w'.heap.size
  oth : ∀ d, d < w.heap.size → d ≠ b → (∀ a, ma = some a → d ≠ a.block) → w'.heap[d]? = w.heap[d]?
theorem FRow.sta {K : Cfg} {l : Nat} {w w' : World} (x : Sta K l w w') {n : Nat} {fb : Nat → Nat} {pk : Nat → Value} {nm path : Nat → ByteArray} {vv : Nat → Value} (h : FRow w n fb pk nm path vv) : FRow w' n fb pk nm path vv :=
  ⟨fun i hi => (h.fn i hi).sta x, fun i hi => (h.pkv i hi).sta x, h.asc, h.dis⟩
theorem mok_recv {K : Cfg} {b : Nat} {rv rv' ps rs : Value} {vr : Bool} : MOk K 3 b tSG #[rv, .pointer none, ps, rs, .bool vr] #[rv', .pointer none, ps, rs, .bool vr] := ⟨rfl, fun i hi => by
  have h0 : i ≠ 0 := fun e => by
    subst e
    unfold mc at hi
    simp only [show ¬ tSG = tTY from by decide, show ¬ tSG = tIF from by decide, if_false, if_true] at hi
    simp at hi
  match i, h0 with
  | i + 1, _ => rfl⟩

set_option maxHeartbeats 2000000 in
theorem c_NewInterfaceType (K : Cfg) (ma ea : Option Addr) (mn mc en ec : Nat) (fb sb : Nat → Nat) (pk : Nat → Value) (nm path : Nat → ByteArray) (ps rs : Nat → Value) (vr : Nat → Bool) (w : World) (hp : Prp w) (hg : gP < K.N) (hma : ∀ a, ma = some a → a.block ≠ gP ∧ a.block < w.heap.size)
    (hr : RowP w 102 ma mn fb) (hf : FRow w mn fb pk nm path fun i => .iface tSP (pt (sb i))) (hs : ∀ i, i < mn → SigP w (sb i) (ps i) (rs i) (vr i)) (hsN : ∀ i, i < mn → K.N ≤ sb i) (hn : mn ≤ 1073741824) :
    Calls Tryz.prog 100 #[.slice ma mn mc, .slice ea en ec] w (Ret fun r w' => ∃ b, r = pt b ∧ w.heap.size ≤ b ∧ b < w'.heap.size ∧
      ((mn = 0 ∧ en = 0 ∧ (∃ tb v, Has w' b (.cells (ifc none 0 0 none 0 0 (pt tb)) tIF) ∧ Has w' tb (.cells #[.bool false, .slice none 0 0, v, .bool false] tTS) ∧ AllT w' v) ∧ Ext w w') ∨
       (¬ (mn = 0 ∧ en = 0) ∧ Has w' b (.cells (ifc ma mn mc ea en ec (.pointer none)) tIF) ∧ ∃ (w1 : World) (σ : List Nat), Sta K 3 w w1 ∧ (∀ d, d < w.heap.size → (∀ i, i < mn → d ≠ sb i) → w1.heap[d]? = w.heap[d]?) ∧ Oth w1 w' b ma ∧ σ.Perm (List.range mn) ∧
        RowP w' 102 ma mn (fun i => fb (σ.getD i 0))))) := by
  refine W.enter (args := [.slice ma mn mc, .slice ea en ec]) Tryz.func100 rfl Tryz.ntmps100 rfl rfl ?_
  by_cases h0 : mn = 0 ∧ en = 0
  · obtain ⟨rfl, rfl⟩ := h0
    refine zst ?_
    rw [show ((((0 : Nat) : Int)) == 0) = true from rfl]
    refine zst ?_
    refine WU.stp rfl rfl rfl (stp_call rfl (c_topTypeSet w)) ?_
    rintro _ w1 ⟨tb, v, rfl, htb, h1, h2, x1⟩
    refine zst ?_
    refine WU.stp rfl rfl rfl (by first | exact stp_box rfl rfl | exact stp_box1 rfl rfl) ?_
    rintro _ w2 ⟨b2, rfl, n2⟩
    refine zst ?_
    refine fin1 (.inl rfl) rfl rfl ⟨b2, rfl, ?_, ?_, .inl ⟨rfl, rfl, ⟨tb, v, n2.has, h1.ext' n2.ext, h2.ext n2.ext⟩, x1.trans n2.ext⟩⟩
    · have := n2.num; have := x1.size; omega
    · exact n2.has.lt
  · (repeat ((fail_if_success guard_target =~ gW (.seq (.region 1 _ _) _)); (fail_if_success guard_target =~ gW (.seq (.seq (.region 1 _ _) _) _)); refine zs1 ?_))
    refine W.cut [(16, .bool false), (0, .slice ma mn mc), (1, .slice ea en ec)] ?_ ?_
    · refine zst ?_
      cases h1 : ((mn : Int) == 0)
      · refine zst ?_
        exact ⟨rfl, rfl, rfl, rfl, rfl, trivial⟩
      · refine zst ?_
        rw [show ((en : Int) == 0) = false from by
          rw [beq_iff_eq] at h1
          rw [beq_eq_false_iff_ne]
          intro h2
          exact h0 ⟨by omega, by omega⟩]
        refine zst ?_
        exact ⟨rfl, rfl, rfl, rfl, rfl, trivial⟩
    refine zst ?_
    refine WU.stp rfl rfl rfl (stp_call rfl (c_newInterface w)) ?_
    rintro _ w1 ⟨b, rfl, n1⟩
    refine zst ?_
    have hbn := n1.num
    have hsz1 := n1.size
    refine W.loop (σ := Nat) (fun k => [(23, .int .i64 k), (22, .int .i64 mn), (21, .slice ma mn mc), (5, pt b), (1, .slice ea en ec), (0, .slice ma mn mc)])
      (fun k D' wk => D' = [] ∧ k ≤ mn ∧ Sta K 3 w wk ∧ w.heap.size < wk.heap.size ∧ Has wk b (.cells #[.pointer none, .slice none 0 0, .slice none 0 0, .pointer none, .bool false, .bool false, .pointer none] tIF) ∧
        (∀ d, d < w.heap.size → (∀ i, i < mn → d ≠ sb i) → wk.heap[d]? = w.heap[d]?) ∧ ∀ i, i < mn → SigP wk (sb i) (ps i) (rs i) (vr i))
      (fun k => mn - k) 0 ⟨rfl, Nat.zero_le _, .of_ext n1.ext, by omega, n1.has, fun d hd _ => n1.ext.below.block d hd, fun i hi => (hs i hi).imp fun _ h => h.ext' n1.ext⟩ (by exact sub_of ⟨rfl, rfl, rfl, rfl, rfl, rfl, trivial⟩) ?_
    rintro k D' wk ⟨rfl, hk, xk, hszk, hbk, hdk, hsk⟩
    refine zst ?_
    by_cases hlt : k < mn
    · rw [show decide ((k : Int) < (mn : Int)) = true by simpa using hlt]
      obtain ⟨rb, rfl, hrc⟩ := (hr.sta xk).cell hlt
      have hfk : Has wk (fb k) (.cells #[.int .i64 0, pk k, .string (nm k), .iface tSP (pt (sb k)), .bool false, .bool false] 173) := (hf.fn k hlt).sta xk
      obtain ⟨pa, hpa⟩ := (hf.pkv k hlt).ptr
      rw [hpa] at hfk
      obtain ⟨rv, hsg⟩ := hsk k hlt
      refine zst ?_
      refine WU.yld rfl rfl rfl (yld_load_c rfl hrc) ?_
      refine zst ?_
      have fin : ∀ w2, Sta K 3 wk w2 → wk.heap.size ≤ w2.heap.size → Has w2 b (.cells #[.pointer none, .slice none 0 0, .slice none 0 0, .pointer none, .bool false, .bool false, .pointer none] tIF) →
          (∀ d, d < w.heap.size → (∀ i, i < mn → d ≠ sb i) → w2.heap[d]? = wk.heap[d]?) → (∀ i, i < mn → SigP w2 (sb i) (ps i) (rs i) (vr i)) →
          (k + 1 ≤ mn ∧ Sta K 3 w w2 ∧ w.heap.size < w2.heap.size ∧ Has w2 b (.cells #[.pointer none, .slice none 0 0, .slice none 0 0, .pointer none, .bool false, .bool false, .pointer none] tIF) ∧
        (∀ d, d < w.heap.size → (∀ i, i < mn → d ≠ sb i) → w2.heap[d]? = w.heap[d]?) ∧ ∀ i, i < mn → SigP w2 (sb i) (ps i) (rs i) (vr i)) := fun w2 x2 hs2 hb2 hd2 hg2 =>
        ⟨by omega, xk.trans x2, by omega, hb2, fun d hd hi => (hd2 d hd hi).trans (hdk d hd hi), hg2⟩
      cases rv with
      | none =>
        refine zst ?_
        refine W.regD [(0, .q), (1, .q), (2, .q), (3, .q), (4, .q), (5, .q), (6, .q), (7, .q), (8, .q), (9, .q), (10, .q), (11, .q), (12, .q), (13, .l), (14, .q), (15, .q), (16, .z)] (by kernel_rfl) (by kernel_rfl) rfl ?_
        intro w2 x2 _
        have hfk2 := hfk.ext' x2
        have hsg2 := hsg.ext' x2
        refine zsd ?_
        refine WD.stp rfl rfl rfl rfl (stp_call rfl (c_newVar 3 0 pa eB 79 (pt b) w2)) ?_
        rintro _ w3 ⟨vb, rfl, n3⟩
        refine ⟨by first | assumption | exact Ext.rfl' _ | infer_instance, ?_⟩
        have hsg3 := hsg2.ext' n3.ext
        refine zsd ?_
        refine WD.last0 rfl rfl rfl (stp_store_cell rfl rfl rfl rfl) ?_
        rintro _ w4 u4
        refine zsd ?_
        refine zst ?_
        have x3 : Ext wk w3 := x2.trans n3.ext
        obtain ⟨g1, g2, g3, g4, g5, g6⟩ := fin w4 ((Sta.of_ext x3).trans (.of_upd hsg3 u4 (hsN k hlt) mok_recv)) (by rw [u4.size]; exact x3.size) ⟨(u4.oth b (fun e => by
            subst e
            have := (hbk.ext' x3).at_.symm.trans hsg3.at_
            simp at this)).trans (hbk.ext' x3).at_⟩
          (fun d hd hi => (u4.oth d (hi k hlt)).trans (x3.below.block d (by omega)))
          (fun i hi => by
            by_cases he : sb i = sb k
            · obtain ⟨rv, h5⟩ := hsk i hi
              have h6 := h5.at_
              rw [he] at h6
              have h7 := hsg.at_.symm.trans h6
              simp at h7
              obtain ⟨-, h7, h8, h9⟩ := h7
              rw [he, ← h7, ← h8, ← h9]
              exact ⟨_, u4.has⟩
            · obtain ⟨rv, h5⟩ := hsk i hi
              exact ⟨rv, ⟨(u4.oth _ he).trans (h5.ext' x3).at_⟩⟩)
        exact ⟨k + 1, by omega, ⟨rfl, g1, g2, g3, g4, g5, g6⟩, sub_of ⟨rfl, rfl, rfl, rfl, rfl, rfl, trivial⟩⟩
      | some rv =>
        refine zst ?_
        obtain ⟨g1, g2, g3, g4, g5, g6⟩ := fin wk (.rfl' ..) (Nat.le_refl _) hbk (fun _ _ _ => rfl) hsk
        exact ⟨k + 1, by omega, ⟨rfl, g1, g2, g3, g4, g5, g6⟩, sub_of ⟨rfl, rfl, rfl, rfl, rfl, rfl, trivial⟩⟩
    · rw [show decide ((k : Int) < (mn : Int)) = false by simpa using hlt]
      refine zst ?_
      refine WU.stp rfl rfl rfl (stp_call rfl (c_sortMethods ma mn mc fb pk nm path _ wk (hp.sta xk hg) (hr.sta xk) (hf.sta xk) hn (fun a ha => (hma a ha).1))) ?_
      rintro _ w2 ⟨s2, σ, hσ, hrow, _⟩
      have hb2 : Has w2 b (.cells #[.pointer none, .slice none 0 0, .slice none 0 0, .pointer none, .bool false, .bool false, .pointer none] tIF) := ⟨(s2.oth b hbk.lt fun a ha => by have := (hma a ha).2; omega).trans hbk.at_⟩
      refine zst ?_
      refine WU.stp0 rfl rfl (stp_store_cell rfl rfl rfl rfl) ?_
      rintro _ w3 u3
      have hb3 := u3.has
      refine zst ?_
      refine WU.stp0 rfl rfl (stp_store_cell rfl rfl rfl rfl) ?_
      rintro _ w4 u4
      have hb4 := u4.has
      refine zst ?_
      refine WU.stp0 rfl rfl (stp_store_cell rfl rfl rfl rfl) ?_
      rintro _ w5 u5
      have hb5 := u5.has
      refine zst ?_
      refine fin1 (.inl rfl) rfl rfl ⟨b, rfl, by omega, hb5.lt, .inr ⟨h0, hb5, wk, σ, xk, hdk, ⟨?_, ?_, ?_, ?_, fun d hd hne hma' => ?_⟩, hσ, fun i hi => ?_⟩⟩
      · rw [u5.os, u4.os, u3.os, s2.os]
      · rw [u5.tape, u4.tape, u3.tape, s2.tape]
      · rw [u5.output, u4.output, u3.output, s2.output]
      · rw [u5.size, u4.size, u3.size]; exact s2.size
      · rw [u5.oth d hne, u4.oth d hne, u3.oth d hne]; exact s2.oth d hd hma'
      · obtain ⟨c, cs, k1, k2, k3⟩ := hrow i hi
        have hcb : c ≠ b := by rw [k1] at hma; have := (hma _ rfl).2; simp at this; omega
        exact ⟨c, cs, k1, ⟨by rw [u5.oth c hcb, u4.oth c hcb, u3.oth c hcb]; exact k2.at_⟩, k3⟩
end Go.Proofs.YtelmnkfdpnkpoaaGreatDoor
namespace Go.Kd
def Fz (ro : Option Nat) : Fence := { Fence.wide with round := ro }
theorem callsFz {ro : Option Nat} {n : Nat} {P : Program} {f : FuncId} {args : Array Value} {w : World} {R : Ending → World → Prop} (h : Calls P f args w R) : CallsIn (Fz ro) n P f args w R :=
  ((callsIn_wide (n := n)).2 h : CallsIn Fence.wide n P f args w R)
theorem callsOfFz {n : Nat} {P : Program} {f : FuncId} {args : Array Value} {w : World} {R : Ending → World → Prop} (h : CallsIn (Fz none) n P f args w R) : Calls P f args w R :=
  (callsIn_wide (n := n)).1 (h : CallsIn Fence.wide n P f args w R)
def nd : Op → Bool
  | .defer _ => false
  | _ => true
theorem nd_ne {o : Op} (h : nd o = true) : ∀ c, o ≠ .defer c := fun c e => by rw [e] at h; cases h

structure WI (P : Program) (ro : Option Nat) (n : Nat) (c : Code) (Q : Post) (D : List Deferred) (e : Env) (w : World) : Prop where
  out : ∀ a, Fr n D e a → c.wpIn (Fz ro) 0 P (post n Q) a w
structure WUI (P : Program) (ro : Option Nat) (n : Nat) (ops : List Oper) (Q : Post) (l : List Oper) (D : List Deferred) (e : Env) (w : World) : Prop where
  out : ∀ a, Fr n D e a → wpListIn (Fz ro) 0 P ops.toArray (post n Q) l a w
section
variable {P : Program} {ro : Option Nat} {n : Nat} {Q Q' : Post} {D : List Deferred} {e : Env} {w : World} {ops : List Oper}
abbrev gUI (l : List Oper) : Prop := WUI P ro n ops Q l D e w
abbrev gWI (c : Code) : Prop := WI P ro n c Q D e w
theorem WI.mono {c : Code} (h : WI P ro n c Q D e w) (hq : ∀ x D e w, Q x D e w → Q' x D e w) : WI P ro n c Q' D e w := ⟨fun a ha =>
  wpIn_mono (h.out a ha) fun x a' w' hx => by
    cases x <;> first
      | exact hx
      | (obtain ⟨D', e', h1, h2⟩ := hx; exact ⟨D', e', h1, hq _ _ _ _ h2⟩)⟩
theorem WI.abs {c : Code} {Pw : World → Prop} (h : Pw w) (k : ∀ w, Pw w → WI P ro n c Q D e w) : WI P ro n c Q D e w := k w h
theorem WI.seq {x y : Code} (h : WI P ro n x (thn (WI P ro n y Q) Q) D e w) : WI P ro n (.seq x y) Q D e w := ⟨fun a ha =>
  wpIn_seq (wpIn_mono (h.out a ha) fun x a' w' hx => by
    cases x <;> first
      | exact hx
      | (obtain ⟨D', e', h1, h2⟩ := hx; exact h2.out a' h1))⟩
theorem WI.skip (h : Q .normal D e w) : WI P ro n .skip Q D e w := ⟨fun _ ha => wpIn_skip ⟨D, e, ha, h⟩⟩
theorem WI.exit {id : Nat} (h : Q (.exit id) D e w) : WI P ro n (.exit id) Q D e w := ⟨fun _ ha => wpIn_exit ⟨D, e, ha, h⟩⟩
theorem WI.ret (h : Q .ret D e w) : WI P ro n .ret Q D e w := ⟨fun _ ha => wpIn_ret ⟨D, e, ha, h⟩⟩
theorem WI.block {id : Nat} {c : Code} (h : WI P ro n c (inb id Q) D e w) : WI P ro n (.block id c) Q D e w := ⟨fun a ha =>
  wpIn_block (wpIn_mono (h.out a ha) fun x a' w' hx => by
    cases x with
    | exit id' =>
      obtain ⟨D', e', h1, h2⟩ := hx
      simp only [inb] at h2
      by_cases hid : id' = id
      · subst hid
        simp only [Nat.beq_refl] at h2
        simp only [Exit.inBlock, if_true]
        exact ⟨D', e', h1, h2⟩
      · have : Nat.beq id' id = false := by
          cases hb : Nat.beq id' id
          · rfl
          · exact absurd (Nat.eq_of_beq_eq_true hb) hid
        simp only [this] at h2
        simp only [Exit.inBlock, hid, if_false]
        exact ⟨D', e', h1, h2⟩
    | _ => exact hx)⟩
theorem WI.cond_t {c : Operand} {x y : Code} (hc : ev e c = some (.bool true)) (h : WI P ro n x Q D e w) : WI P ro n (.cond c x y) Q D e w := ⟨fun a ha =>
  wpIn_cond_true (ha.eval hc) (h.out a ha)⟩
theorem WI.cond_f {c : Operand} {x y : Code} (hc : ev e c = some (.bool false)) (h : WI P ro n y Q D e w) : WI P ro n (.cond c x y) Q D e w := ⟨fun a ha =>
  wpIn_cond_false (ha.eval hc) (h.out a ha)⟩
theorem WI.reg {id : Nat} {l : List Oper} (h : WUI P ro n l Q l D e w) : WI P ro n (.region id l.toArray false) Q D e w := ⟨fun a ha => wpIn_region_lit (h.out a ha)⟩
theorem WUI.nil (h : Q .normal D e w) : WUI P ro n ops Q [] D e w := ⟨fun _ ha => ⟨D, e, ha, h⟩⟩
theorem WUI.nilk {K : List Deferred → Env → World → Prop} (h : K D e w) : WUI P ro n ops (thn K Q) [] D e w := ⟨fun _ ha => ⟨D, e, ha, h⟩⟩
theorem uponIn_of_stp {o : Oper} {a : Act} {R : Value → World → Prop} (ha : Fr n D e a) (hnd : nd o.op = true) (h : Stp P e o w R) {K : Act → World → Prop} {Q' : Exit → Act → World → Prop}
    (hk : ∀ v w', R v w' → K (a.put o.dst v) w') : o.wpIn (Fz ro) 0 P a w K Q' := by
  have h1 := h.out a.eval ha.ag
  refine ⟨fun _ _ => trivial, ?_⟩
  rw [Oper.semAt_eq _ _ _ (nd_ne hnd)]
  generalize (execOp a.eval o).run P w = r at *
  cases r with
  | ok nx w' =>
    cases nx <;> simp only at h1 <;> simp only [Oper.uponIn]
    case value v => exact hk _ _ h1
    case skip => exact hk _ _ h1
    case enter f args =>
      refine ⟨fun h => (by cases h), callsFz (h1.mono fun x w'' hx => ?_)⟩
      obtain ⟨v, rfl, hr⟩ := hx
      exact hk _ _ hr
  | halt x w' => exact h1.elim
theorem WUI.stp {o : Oper} {rest : List Oper} {d : Nat} {R : Value → World → Prop} (hd : o.dst = some d) (hl : Nat.blt d n = true) (hg : wn ops e o.guard = some true) (hnd : nd o.op = true) (h : Stp P e o w R)
    (hk : ∀ v w', R v w' → WUI P ro n ops Q rest D ((d, v) :: e) w') : WUI P ro n ops Q (o :: rest) D e w := ⟨fun a ha => by
  unfold wpListIn
  rw [wn_spec hg ha, if_pos rfl]
  exact uponIn_of_stp ha hnd h fun v w' hr => (hk v w' hr).out _ (by rw [hd]; exact ha.put (by simpa [Nat.blt_eq] using hl) v)⟩
theorem WUI.stp0 {o : Oper} {rest : List Oper} {R : Value → World → Prop} (hd : o.dst = none) (hg : wn ops e o.guard = some true) (hnd : nd o.op = true) (h : Stp P e o w R)
    (hk : ∀ v w', R v w' → WUI P ro n ops Q rest D e w') : WUI P ro n ops Q (o :: rest) D e w := ⟨fun a ha => by
  unfold wpListIn
  rw [wn_spec hg ha, if_pos rfl]
  exact uponIn_of_stp ha hnd h fun v w' hr => (hk v w' hr).out _ (by rw [hd]; exact ha)⟩
theorem WUI.skip {o : Oper} {rest : List Oper} {d : Nat} (hd : o.dst = some d) (hl : Nat.blt d n = true) (hg : wn ops e o.guard = some false) (hk : WUI P ro n ops Q rest D ((d, undef) :: e) w) :
    WUI P ro n ops Q (o :: rest) D e w := ⟨fun a ha => by
  unfold wpListIn
  rw [wn_spec hg ha]
  simp only [Bool.false_eq_true, if_false]
  exact ⟨fun _ _ => trivial, hk.out _ (by rw [hd]; exact ha.put (by simpa [Nat.blt_eq] using hl) _)⟩⟩
theorem WUI.yld {o : Oper} {rest : List Oper} {d : Nat} {v : Value} (hd : o.dst = some d) (hl : Nat.blt d n = true) (hg : wn ops e o.guard = some true) (hnd : nd o.op = true) (h : Yld P e o v w)
    (hk : WUI P ro n ops Q rest D ((d, v) :: e) w) : WUI P ro n ops Q (o :: rest) D e w :=
  WUI.stp hd hl hg hnd h.stp fun _ _ ⟨h1, h2⟩ => by rw [h1, h2]; exact hk

/-- a call of yield -/
theorem WUI.round {rest : List Oper} {d : Nat} {x : Operand} {args : List Operand} {tys : Array TypeId} {ty : TypeId} {pos : String} {aft : Array Edge} {l : Nat} {r : Loop} {vs : List Value} {R : Value → World → Prop} (hl : Nat.blt d n = true) (hx : ev e x = some (.func (.yield l) #[] #[]))
    (ha : evs e args = some vs) (hl2 : w.heap[l]? = some (.loop r)) (hps : vs.length = r.params.size)
    (hr : RoundIn (Fz none) 0 P l r.fn ((r.params.zip vs.toArray).foldl (fun tmps (t, a) => tmps.setIfInBounds t a) r.tmps) r.assign r.body w (fun en w' => ∃ v, en = .returned v ∧ R v w'))
    (hk : ∀ v w', R v w' → WUI P none n ops Q rest D ((d, v) :: e) w') : WUI P none n ops Q (⟨some d, .call ⟨.value x, args.toArray, tys⟩, ty, pos, aft, none⟩ :: rest) D e w := ⟨fun a hfa => by
  unfold wpListIn
  rw [wn_spec (r := true) rfl hfa, if_pos rfl]
  refine ⟨fun _ _ => trivial, ?_⟩
  have hv : args.toArray.map a.eval = vs.toArray := by rw [← evs_spec hfa.ag args vs ha]; simp
  have hx' := hfa.ag _ _ hx
  have hy := run_yield (P := P) (args := vs.toArray) hl2 (by simpa using hps)
  rw [Oper.semAt_eq _ _ _ (nd_ne rfl)]
  have he : (execOp a.eval ⟨some d, .call ⟨.value x, args.toArray, tys⟩, ty, pos, aft, none⟩).run P w = .ok (.round l r.fn ((r.params.zip vs.toArray).foldl (fun tmps (t, a) => tmps.setIfInBounds t a) r.tmps) r.assign r.body) w := by
    simp only [execOp, resolve, hv, hx', Deferred.ofValue, invoke, Sem.run_bind, Sem.run_pure, Result.andThen_ok, Array.empty_append]
    exact hy
  rw [he]
  refine ⟨fun h => (by cases h), hr.mono fun en w' hx => ?_⟩
  obtain ⟨v, rfl, h2⟩ := hx
  exact (hk v w' h2).out _ (hfa.put (by simpa [Nat.blt_eq] using hl) v)⟩
/-- a round that ends off its end -/
theorem round_of {l n0 : Nat} {r : Loop} {tmps : Array Value} {e1 : Env} {w : World} {R : Value → World → Prop} (hr : r.state = .ready) (ht : Fr n0 [] e1 { tmps := tmps, defers := [] })
    (h : WI P (some l) n0 r.assign (fun x D e2 w1 => x = .normal ∧ D = [] ∧ w1.heap[l]? = some (.loop r) ∧ WI P (some l) n0 r.body (fun x _ _ w3 => x = .normal ∧ ∃ r', w3.heap[l]? = some (.loop r') ∧ R (.bool true) (w3.putObj l (.loop { r' with state := .ready, pending := none }))) [] e2
      (w1.putObj l (.loop { r with state := .busy }))) [] e1 w) :
    RoundIn (Fz none) 0 P l r.fn tmps r.assign r.body w (fun en w' => ∃ v, en = .returned v ∧ R v w') := by
  refine roundIn_of_wpIn (F := Fz none) trivial (wpIn_mono (h.out _ ht) fun x a' w' hx => ?_)
  cases x with
  | normal =>
    obtain ⟨D', e2, ha, -, rfl, hl, hb⟩ := hx
    refine ⟨_, run_beginRound hl hr, wpIn_mono (hb.out _ ha) fun y a2 w2 hy => ?_⟩
    cases y with
    | normal =>
      obtain ⟨D2, e3, _, -, r', hl', hR⟩ := hy
      exact ⟨_, _, run_endRound none hl', _, rfl, hR⟩
    | panic _ => exact hy.elim
    | outgrown => exact hy.elim
    | ret => obtain ⟨_, _, _, h, _⟩ := hy; cases h
    | exit _ => obtain ⟨_, _, _, h, _⟩ := hy; cases h
    | goto _ => obtain ⟨_, _, _, h, _⟩ := hy; cases h
  | panic _ => exact hx.elim
  | outgrown => exact hx.elim
  | ret => obtain ⟨_, _, _, h, _⟩ := hx; cases h
  | exit _ => obtain ⟨_, _, _, h, _⟩ := hx; cases h
  | goto _ => obtain ⟨_, _, _, h, _⟩ := hx; cases h

/-- the statement: the function that is ranged over is called; no jump is left -/
theorem W.rangeFn {g : Operand} {ps : Array Tmp} {assign body : Code} {f : FuncId} {caps : Array Value} {fn' : Go.Func} (hf : P.funcs[f]? = some fn') (hname : (fn'.name == "runtime.NumGoroutine") = false) (hbd : fn'.body.isNone = false) (hg : ev e g = some (.func (.func f) #[] caps))
    (h : ∀ fn a, Fr n D e a → Calls P f (#[.func (.yield (w.heap.size + 1)) #[] #[]] ++ caps) ((w.alloc (.deferred (some []))).alloc (.loop { state := .ready, pending := none, fn := fn, tmps := a.tmps, params := ps, assign := assign, body := body, defers := w.heap.size })) fun en w3 =>
      ∃ v r, en = .returned v ∧ w3.heap[w.heap.size + 1]? = some (.loop r) ∧ r.state ≠ .busy ∧ r.pending = none ∧ Q .normal ([{ target := .collected w.heap.size, args := #[] }] ++ D) e (w3.putObj (w.heap.size + 1) (.loop { r with state := .exhausted }))) :
    W P n (.rangeFunc g ps assign body) Q D e w := ⟨fun a ha => by
  refine (wpIn_wide (n := 0)).1 (wpIn_rangeFunc (F := Fence.wide) fun fn _ => ?_)
  have hg' := ha.ag _ _ hg
  have hres : (resolve a.eval (rangeCall g (w.heap.size + 1)) 0).run P ((w.alloc (.deferred (some []))).alloc (.loop { state := .ready, pending := none, fn := fn, tmps := a.tmps, params := ps, assign := assign, body := body, defers := w.heap.size })) =
      .ok { target := .fn (.func f) caps, args := #[.func (.yield (w.heap.size + 1)) #[] #[]] } ((w.alloc (.deferred (some []))).alloc (.loop { state := .ready, pending := none, fn := fn, tmps := a.tmps, params := ps, assign := assign, body := body, defers := w.heap.size })) := by
    simp only [resolve, hg', Deferred.ofValue, Sem.run_pure]
    simp [Act.eval]
  have hen := run_enterLoop_outer (P := P) (w := w) fn a.tmps ps assign body
  have hc := h fn a ha
  generalize (w.alloc (.deferred (some []))).alloc (.loop { state := .ready, pending := none, fn := fn, tmps := a.tmps, params := ps, assign := assign, body := body, defers := w.heap.size }) = W1 at hres hen hc
  have hinv : (invoke (.fn (.func f) caps) (#[.func (.yield (w.heap.size + 1)) #[] #[]])).run P W1 = .ok (.enter f (#[.func (.yield (w.heap.size + 1)) #[] #[]] ++ caps)) W1 := by
    simp only [invoke, callFunc, program, bind, Sem.bind, Sem.run, pure, hf, hname, hbd, Bool.false_eq_true, if_false]
  have hpost : CallsIn Fence.wide (0 - 1) P f (#[.func (.yield (w.heap.size + 1)) #[] #[]] ++ caps) W1 (rangePost Fence.wide 0 P (w.heap.size + 1) (post n Q) { a with defers := [{ target := .collected w.heap.size, args := #[] }] ++ a.defers }) := by
    refine (callsIn_wide (n := 0 - 1)).2 (hc.mono fun en w3 hx => ?_)
    obtain ⟨v, r, rfl, h1, h2, h3, h4⟩ := hx
    have he := run_endLoop (P := P) h1 h2
    rw [h3] at he
    refine ⟨none, _, he, ?_⟩
    rw [h3] at h4
    exact ⟨_, _, ⟨ha.size, by show _ ++ a.defers = _; rw [ha.defers], ha.get⟩, h4⟩
  exact ⟨_, _, W1, _, W1, f, _, W1, hen, hres, fun _ _ => trivial, hinv, fun h => (by cases h), hpost⟩⟩
/-- behind a range over a function: the mark is come to -/
theorem W.enterM {k : Nat} {fn : Go.Func} {c : Code} {args : List Value} {w : World} {R : Value → World → Prop} (hf : P.funcs[k]? = some fn) (hb : fn.body = some c)
    (hn : fn.ntmps = n) (hl : Nat.ble args.length n = true) {e : Env} (he : argO args = some e) {t : Nat} (hres : fn.results = #[.tmp t])
    (h : W P n c (fun x D e' w' => (x = .ret ∨ x = .normal) ∧ ∃ b v, D = [{ target := .collected b, args := #[] }] ∧ w'.heap[b]? = some (.deferred (some [])) ∧ lk e' t = some v ∧ R v (w'.putObj b (.deferred none))) [] e w) : Calls P k args.toArray w (Ret R) := by
  refine (callsIn_wide (n := 0)).1 (callsIn_of_wp_marks hf hb trivial ((wpIn_wide (n := 0)).2 (wp_mono ((argO_eq args e he ▸ h : W P n c _ [] (argE args 0) w).out { tmps := args.toArray ++ Array.replicate (fn.ntmps - args.toArray.size) undef, defers := [] } ⟨by have := Nat.le_of_ble_eq_true hl; simp; omega, rfl, fun i v hi => by
      obtain ⟨_, h2⟩ := argE_lk args 0 i v hi
      simp only [Nat.sub_zero] at h2
      have : i < args.length := (List.getElem?_eq_some_iff.1 h2).1
      rw [Array.getElem?_append_left (by simpa using this)]
      simpa using h2⟩) fun x a' w' hx => ?_)) rfl)
  have fin : ∀ a' : Act, ∀ D' e' b v, Fr n D' e' a' → D' = [{ target := .collected b, args := #[] }] → w'.heap[b]? = some (.deferred (some [])) → lk e' t = some v → R v (w'.putObj b (.deferred none)) →
      LeavesInM Fence.wide 0 P fn a'.tmps (Ret R) a'.defers .returning w' := fun a' D' e' b v ha hD hb hv hR => by
    rw [ha.defers, hD]
    refine ⟨fun h => (by cases h), .inl ⟨b, _, rfl, run_takeDeferred hb, ?_⟩⟩
    exact ⟨_, run_results (vs := [v]) ha (by rw [hres]; exact .tmp hv .nil), _, rfl, hR⟩
  cases x with
  | normal => obtain ⟨D', e', ha, -, b, v, h1, h2, h3, h4⟩ := hx; exact fin _ D' e' b v ha h1 h2 h3 h4
  | ret => obtain ⟨D', e', ha, -, b, v, h1, h2, h3, h4⟩ := hx; exact fin _ D' e' b v ha h1 h2 h3 h4
  | panic ch => exact hx.elim
  | outgrown => exact hx.elim
  | exit id => obtain ⟨_, _, _, h, _⟩ := hx; rcases h with h | h <;> cases h
  | goto l => obtain ⟨_, _, _, h, _⟩ := hx; rcases h with h | h <;> cases h
/-- a function whose body calls yield -/
theorem WI.enter {k : Nat} {fn : Go.Func} {c : Code} {args : List Value} {w : World} {R : Ending → World → Prop} (hf : P.funcs[k]? = some fn) (hb : fn.body = some c)
    (hn : fn.ntmps = n) (hl : Nat.ble args.length n = true) {e : Env} (he : argO args = some e) (h : WI P none n c (Kd.fin P fn R) [] e w) : Calls P k args.toArray w R := by
  refine callsOfFz (n := 0) (callsIn_of_wp (F := Fz none) hf hb trivial (wpIn_mono ((argO_eq args e he ▸ h : WI P none n c _ [] (argE args 0) w).out { tmps := args.toArray ++ Array.replicate (fn.ntmps - args.toArray.size) undef, defers := [] } ⟨by have := Nat.le_of_ble_eq_true hl; simp; omega, rfl, fun i v hi => by
      obtain ⟨_, h2⟩ := argE_lk args 0 i v hi
      simp only [Nat.sub_zero] at h2
      have : i < args.length := (List.getElem?_eq_some_iff.1 h2).1
      rw [Array.getElem?_append_left (by simpa using this)]
      simpa using h2⟩) fun x a' w' hx => ?_))
  cases x with
  | normal =>
    obtain ⟨D', e', ha, hD, vs, hr, hR⟩ := hx
    exact ⟨by rw [ha.defers, hD], _, run_results ha hr, hR⟩
  | ret =>
    obtain ⟨D', e', ha, hD, vs, hr, hR⟩ := hx
    exact ⟨by rw [ha.defers, hD], _, run_results ha hr, hR⟩
  | panic ch => exact hx.elim
  | outgrown => exact hx.elim
  | exit id => obtain ⟨_, _, _, h⟩ := hx; exact h.elim
  | goto l => obtain ⟨_, _, _, h⟩ := hx; exact h.elim
end
theorem fold2 (a b : Nat) (u v : Value) (ts : Array Value) : Array.foldl (fun tmps (x : Nat × Value) => match x with | (t, a) => tmps.setIfInBounds t a) ts ((#[a, b] : Array Nat).zip #[u, v]) = (ts.setIfInBounds a u).setIfInBounds b v := by
  rw [show (#[a, b] : Array Nat).zip #[u, v] = #[(a, u), (b, v)] from by rw [List.zip_toArray]; rfl]
  rfl
theorem yld_makeFunc {P : Program} {e : Env} {w : World} {d : Option Tmp} {ty : TypeId} {pos : String} {aft : Array Edge} {g : Option (Nat × Bool)} {fn : Fn} {caps : List Operand} {vs : List Value} (ha : evs e caps = some vs) :
    Yld P e ⟨d, .makeFunc fn #[] caps.toArray, ty, pos, aft, g⟩ (.func fn #[] vs.toArray) w := ⟨fun ρ hρ w' _ => by
  have hv : caps.toArray.map ρ = vs.toArray := by rw [← evs_spec hρ caps vs ha]; simp
  simp [execOp, Instr.makeFunc, hv]⟩
theorem Upd.putObj {w : World} {l : Nat} {o o' : Obj} (h : w.heap[l]? = some o) : Upd w l o' (w.putObj l o') :=
  ⟨⟨World.putObj_heap_same (Array.getElem?_eq_some_iff.1 h).1⟩, fun _ hc => World.putObj_heap_other hc, World.putObj_size, rfl, rfl, rfl⟩
end Go.Kd
namespace Go.Proofs.YtelmnkfdpnkpoaaGreatDoor
open Go Go.Kd
set_option maxRecDepth 100000

abbrev tAL : Nat := 93
abbrev tSL : Nat := 147
theorem c_Unalias_no (T : Nat) (v : Value) (w : World) (hT : Nat.beq T tAL = false) :
    Calls Tryz.prog 116 #[.iface T v] w (Ret fun r w' => r = .iface T v ∧ w = w') := by
  refine W.enter (args := [.iface T v]) Tryz.func116 rfl Tryz.ntmps116 rfl rfl ?_
  refine zst ?_
  exact fin1 (.inl rfl) rfl rfl ⟨rfl, rfl⟩
theorem c_Slice_Underlying (b : Nat) (w : World) : Calls Tryz.prog 251 #[pt b] w (Ret fun r w' => r = .iface tSL (pt b) ∧ w = w') := by
  refine W.enter (args := [pt b]) Tryz.func251 rfl Tryz.ntmps251 rfl rfl ?_
  refine zst ?_
  exact fin1 (.inl rfl) rfl rfl ⟨rfl, rfl⟩
theorem c_isString_slice (b : Nat) (w : World) : Calls Tryz.prog 145 #[.iface tSL (pt b)] w (Ret fun r w' => r = .bool false ∧ w = w') := by
  have key : Calls Tryz.prog 172 #[.iface tSL (pt b), .int .i64 32] w (Ret fun r w' => r = .bool false ∧ w = w') := by
    refine W.enter (args := [.iface tSL (pt b), .int .i64 32]) Tryz.func172 rfl Tryz.ntmps172 rfl rfl ?_
    refine zst ?_
    refine WU.stp rfl rfl rfl (stp_invoke rfl rfl (c_Slice_Underlying b w)) ?_
    rintro _ _ ⟨rfl, rfl⟩
    refine zst ?_
    exact fin1 (.inl rfl) rfl rfl ⟨rfl, rfl⟩
  refine W.enter (args := [.iface tSL (pt b)]) Tryz.func145 rfl Tryz.ntmps145 rfl rfl ?_
  refine zst ?_
  refine WU.stp rfl rfl rfl (stp_call rfl (key)) ?_
  rintro _ _ ⟨rfl, rfl⟩
  refine zst ?_
  exact fin1 (.inl rfl) rfl rfl ⟨rfl, rfl⟩

theorem c_all (b l : Nat) (r : Loop) (w : World) (R : Value → World → Prop) (hl : w.heap[l]? = some (.loop r)) (hps : r.params = #[35, 36])
    (hr : RoundIn (Fz none) 0 Tryz.prog l r.fn ((r.tmps.setIfInBounds 35 (.iface tSL (pt b))).setIfInBounds 36 (.iface tSL (pt b))) r.assign r.body w (fun en w' => ∃ v, en = .returned v ∧ R v w')) :
    Calls Tryz.prog 171 #[.iface tSL (pt b), .func (.yield l) #[] #[]] w (Ret R) := by
  refine WI.enter (args := [.iface tSL (pt b), .func (.yield l) #[] #[]]) Tryz.func171 rfl Tryz.ntmps171 rfl rfl ?_
  (repeat (first
      | (guard_target =~ gUI _; first
          | (guard_target =~ gUI []; first | refine WUI.nilk ?_ | refine WUI.nil ?_)
          | refine WUI.yld rfl rfl rfl rfl zyl ?_
          | refine WUI.skip rfl rfl rfl ?_)
      | (guard_target =~ gWI (.seq _ _); refine WI.seq ?_)
      | (guard_target =~ gWI (.region _ _ false); refine WI.reg ?_)
      | (guard_target =~ gWI (.cond _ _ _); first | refine WI.cond_t rfl ?_ | refine WI.cond_f rfl ?_)
      | (guard_target =~ gWI (.block _ _); refine WI.block ?_)
      | (guard_target =~ gWI .skip; refine WI.skip ?_)
      | (guard_target =~ gWI (.exit _); refine WI.exit ?_)
      | (guard_target =~ gWI .ret; refine WI.ret ?_)
      | (guard_target =~ gT .normal; refine thn_normal ?_)
      | (guard_target =~ gT (.exit _); refine thn_exit ?_)
      | (guard_target =~ gT .ret; refine thn_ret ?_)
      | (guard_target =~ gI .normal; refine inb_normal ?_)
      | (guard_target =~ gI (.exit _); first | refine inb_hit ?_ | refine inb_miss rfl ?_)
      | (guard_target =~ gI .ret; refine inb_ret ?_)))
  refine WUI.stp rfl rfl rfl rfl (stp_call rfl (c_Unalias_no _ _ w rfl)) ?_
  rintro _ _ ⟨rfl, rfl⟩
  (repeat (first
      | (guard_target =~ gUI _; first
          | (guard_target =~ gUI []; first | refine WUI.nilk ?_ | refine WUI.nil ?_)
          | refine WUI.yld rfl rfl rfl rfl zyl ?_
          | refine WUI.skip rfl rfl rfl ?_)
      | (guard_target =~ gWI (.seq _ _); refine WI.seq ?_)
      | (guard_target =~ gWI (.region _ _ false); refine WI.reg ?_)
      | (guard_target =~ gWI (.cond _ _ _); first | refine WI.cond_t rfl ?_ | refine WI.cond_f rfl ?_)
      | (guard_target =~ gWI (.block _ _); refine WI.block ?_)
      | (guard_target =~ gWI .skip; refine WI.skip ?_)
      | (guard_target =~ gWI (.exit _); refine WI.exit ?_)
      | (guard_target =~ gWI .ret; refine WI.ret ?_)
      | (guard_target =~ gT .normal; refine thn_normal ?_)
      | (guard_target =~ gT (.exit _); refine thn_exit ?_)
      | (guard_target =~ gT .ret; refine thn_ret ?_)
      | (guard_target =~ gI .normal; refine inb_normal ?_)
      | (guard_target =~ gI (.exit _); first | refine inb_hit ?_ | refine inb_miss rfl ?_)
      | (guard_target =~ gI .ret; refine inb_ret ?_)))
  refine WUI.stp rfl rfl rfl rfl (stp_invoke rfl rfl (c_Slice_Underlying b w)) ?_
  rintro _ _ ⟨rfl, rfl⟩
  refine WUI.round rfl rfl rfl hl (by rw [hps]; rfl) (by rw [hps, fold2]; exact hr) ?_
  rintro v w' hR
  (repeat (first
      | (guard_target =~ gUI _; first
          | (guard_target =~ gUI []; first | refine WUI.nilk ?_ | refine WUI.nil ?_)
          | refine WUI.yld rfl rfl rfl rfl zyl ?_
          | refine WUI.skip rfl rfl rfl ?_)
      | (guard_target =~ gWI (.seq _ _); refine WI.seq ?_)
      | (guard_target =~ gWI (.region _ _ false); refine WI.reg ?_)
      | (guard_target =~ gWI (.cond _ _ _); first | refine WI.cond_t rfl ?_ | refine WI.cond_f rfl ?_)
      | (guard_target =~ gWI (.block _ _); refine WI.block ?_)
      | (guard_target =~ gWI .skip; refine WI.skip ?_)
      | (guard_target =~ gWI (.exit _); refine WI.exit ?_)
      | (guard_target =~ gWI .ret; refine WI.ret ?_)
      | (guard_target =~ gT .normal; refine thn_normal ?_)
      | (guard_target =~ gT (.exit _); refine thn_exit ?_)
      | (guard_target =~ gT .ret; refine thn_ret ?_)
      | (guard_target =~ gI .normal; refine inb_normal ?_)
      | (guard_target =~ gI (.exit _); first | refine inb_hit ?_ | refine inb_miss rfl ?_)
      | (guard_target =~ gI .ret; refine inb_ret ?_)))
  exact fin1 (.inl rfl) rfl rfl hR
theorem c_typeset1 (b l c : Nat) (r : Loop) (w : World) (R : Value → World → Prop) (hc : Has w c (.cells #[.iface tSL (pt b)] tTY)) (hl : w.heap[l]? = some (.loop r)) (hps : r.params = #[35, 36])
    (hr : RoundIn (Fz none) 0 Tryz.prog l r.fn ((r.tmps.setIfInBounds 35 (.iface tSL (pt b))).setIfInBounds 36 (.iface tSL (pt b))) r.assign r.body w (fun en w' => ∃ v, en = .returned v ∧ R v w')) :
    Calls Tryz.prog 170 #[.func (.yield l) #[] #[], pt c] w (Ret fun _ w' => ∃ v, R v w') := by
  refine W.enter (args := [.func (.yield l) #[] #[], pt c]) Tryz.func170 rfl Tryz.ntmps170 rfl rfl ?_
  refine zst ?_
  refine WU.stp rfl rfl rfl (stp_call rfl (c_all b l r w R hl hps hr)) ?_
  rintro v w' hR
  refine zst ?_
  exact fin0 (.inr rfl) rfl ⟨v, hR⟩
theorem c_typeset (b : Nat) (w : World) : Calls Tryz.prog 144 #[.iface tSL (pt b)] w (Ret fun r w' => ∃ c, r = .func (.func 170) #[] #[pt c] ∧ New w c (.cells #[.iface tSL (pt b)] tTY) w') := by
  refine W.enter (args := [.iface tSL (pt b)]) Tryz.func144 rfl Tryz.ntmps144 rfl rfl ?_
  refine zst ?_
  refine WU.stp rfl rfl rfl (by first | exact stp_box rfl rfl | exact stp_box1 rfl rfl) ?_
  rintro _ w1 ⟨b1, rfl, n1⟩
  refine zst ?_
  refine WU.yld rfl rfl rfl (yld_makeFunc rfl) ?_
  refine zst ?_
  exact fin1 (.inl rfl) rfl rfl ⟨b1, rfl, n1⟩

/-- a tuple's variables -/
theorem c_TupLen (b : Nat) (a : Option Addr) (n c : Nat) (w : World) (h : Has w b (.cells #[.slice a n c] 206)) : Calls Tryz.prog 121 #[pt b] w (Ret fun r w' => r = .int .i64 n ∧ w = w') := by
  refine W.enter (args := [pt b]) Tryz.func121 rfl Tryz.ntmps121 rfl rfl ?_
  refine zst ?_
  exact fin1 (.inl rfl) rfl rfl ⟨rfl, rfl⟩
theorem c_TupAt (b : Nat) (a : Option Addr) (n c : Nat) (f : Nat → Nat) (i : Nat) (w : World) (h : Has w b (.cells #[.slice a n c] 206)) (hr : RowP w 98 a n f) (hi : i < n) :
    Calls Tryz.prog 143 #[pt b, .int .i64 i] w (Ret fun r w' => r = pt (f i) ∧ w = w') := by
  obtain ⟨rb, rfl, hrc⟩ := hr.cell hi
  refine W.enter (args := [pt b, .int .i64 i]) Tryz.func143 rfl Tryz.ntmps143 rfl rfl ?_
  refine zst ?_
  refine WU.yld rfl rfl rfl (yld_load_c rfl hrc) ?_
  refine zst ?_
  exact fin1 (.inl rfl) rfl rfl ⟨rfl, rfl⟩

/-- what is asked of the parameters of a variadic function -/
def LastSl (w : World) (ps : Value) : Prop := ∃ pb a n c f sb pk nm kd, ps = pt pb ∧ 0 < n ∧ Has w pb (.cells #[.slice a n c] 206) ∧ RowP w 98 a n f ∧ VarV w (f (n - 1)) pk nm (.iface tSL (pt sb)) kd false ∧ n ≤ 1073741824
theorem c_NewSignatureType0 (rv ps rs : Option Addr) (w : World) :
    Calls Tryz.prog 109 #[.pointer rv, .slice none 0 0, .slice none 0 0, .pointer ps, .pointer rs, .bool false] w (Ret fun r w' => ∃ b, r = pt b ∧ w.heap.size ≤ b ∧ Has w' b (.cells #[.pointer rv, .pointer none, .pointer ps, .pointer rs, .bool false] tSG) ∧ Ext w w') := by
  refine W.enter (args := [.pointer rv, .slice none 0 0, .slice none 0 0, .pointer ps, .pointer rs, .bool false]) Tryz.func109 rfl Tryz.ntmps109 rfl rfl ?_
  refine zst ?_
  refine WU.stp rfl rfl rfl (by first | exact stp_box rfl rfl | exact stp_box1 rfl rfl) ?_
  rintro _ w1 ⟨b1, rfl, n1⟩
  refine zst ?_
  exact fin1 (.inl rfl) rfl rfl ⟨b1, rfl, Nat.le_of_eq n1.num.symm, n1.has, n1.ext⟩

set_option maxHeartbeats 2000000 in
theorem c_NewSignatureType1 (rv ps rs : Option Addr) (w : World) (hl : LastSl w (.pointer ps)) :
    Calls Tryz.prog 109 #[.pointer rv, .slice none 0 0, .slice none 0 0, .pointer ps, .pointer rs, .bool true] w (Ret fun r w' => ∃ b, r = pt b ∧ w.heap.size ≤ b ∧ Has w' b (.cells #[.pointer rv, .pointer none, .pointer ps, .pointer rs, .bool true] tSG) ∧ Ext w w') := by
  obtain ⟨pb, a, n, c, f, sb, pk, nm, kd, hps, hn, hpb, hrow, hvar, hnn⟩ := hl
  cases hps
  have hvar' : Has w (f (n - 1)) (.cells #[.int .i64 0, pk, .string nm, .iface tSL (pt sb), .int .u8 kd, .bool false] 185) := hvar
  refine W.enterM (args := [.pointer rv, .slice none 0 0, .slice none 0 0, pt pb, .pointer rs, .bool true]) Tryz.func109 rfl Tryz.ntmps109 rfl rfl rfl ?_
  refine zst ?_
  refine WU.stp rfl rfl rfl (stp_call rfl (c_TupLen pb a n c w hpb)) ?_
  rintro _ _ ⟨rfl, rfl⟩
  refine zst ?_
  rw [show ((n : Int) == 0) = false from by rw [beq_eq_false_iff_ne]; omega]
  refine zst ?_
  rw [show (n : Int) - 1 = ((n - 1 : Nat) : Int) from by omega]
  refine WU.stp rfl rfl rfl (stp_call rfl (c_TupAt pb a n c f (n - 1) w hpb hrow (by omega))) ?_
  rintro _ _ ⟨rfl, rfl⟩
  refine zst ?_
  refine WU.stp rfl rfl rfl stp_alloc ?_
  rintro _ w1 ⟨b1, rfl, n1⟩
  refine zst ?_
  refine WU.stp rfl rfl rfl (stp_call rfl (c_typeset sb w1)) ?_
  rintro _ w2 ⟨c2, rfl, n2⟩
  refine zst ?_
  have hS : Has w2 b1 (.cells #[.pointer none] tSL) := n1.has.ext' n2.ext
  have hb1 : b1 < w2.heap.size := hS.lt
  have hC : Has w2 c2 (.cells #[.iface tSL (pt sb)] tTY) := n2.has
  have x2 : Ext w w2 := n1.ext.trans n2.ext
  refine W.rangeFn (caps := #[pt c2]) Tryz.func170 (by kernel_rfl) (by kernel_rfl) rfl fun fn act hact => ?_
  have hal2 : ∀ (W : World) (o1 o2 : Obj), ((W.alloc o1).alloc o2).heap[W.heap.size + 1]? = some o2 := fun W o1 o2 => by
    have := World.alloc_heap_new (W.alloc o1) o2
    rw [show (W.alloc o1).heap.size = W.heap.size + 1 from by simp] at this
    exact this
  have hal1 : ∀ (W : World) (o1 o2 : Obj), ((W.alloc o1).alloc o2).heap[W.heap.size]? = some o1 := fun W o1 o2 => by
    show ((W.heap.push o1).push o2)[W.heap.size]? = some o1
    rw [Array.getElem?_push, if_neg (by simp), Array.getElem?_push, if_pos rfl]
  have hx : ∀ (o1 o2 : Obj), Ext w2 ((w2.alloc o1).alloc o2) := fun o1 o2 => (New.alloc w2 o1).ext.trans (New.alloc _ o2).ext
  let R0 : Value → World → Prop := fun v w' => v = .bool true ∧ ∃ r', w'.heap[w2.heap.size + 1]? = some (.loop r') ∧ r'.state = .ready ∧ r'.pending = none ∧ Has w' b1 (.cells #[pt sb] tSL) ∧ w'.heap[w2.heap.size]? = some (.deferred (some [])) ∧ Ext w w'
  refine Calls.mono (R := Ret fun _ w' => ∃ v, R0 v w') ?_ ?_
  refine c_typeset1 sb (w2.heap.size + 1) c2 _ _ R0 (hC.ext' (hx _ _)) (hal2 _ _ _) ?_ ?_
  · rfl
  · refine round_of (e1 := (36, .iface tSL (pt sb)) :: (35, .iface tSL (pt sb)) :: _) rfl ⟨by simpa using hact.size, rfl, ((hact.put (d := 35) (by decide) _).put (d := 36) (by decide) _).get⟩ ?_
    refine WI.reg ?_
    refine WUI.yld rfl rfl rfl rfl (yf rfl) ?_
    refine WUI.nil ⟨rfl, rfl, hal2 _ _ _, ?_⟩
    have facts : ∀ (o2 : Obj) (r3 : Loop), (fun W : World => Has W b1 (.cells #[.pointer none] tSL) ∧ W.heap[w2.heap.size]? = some (.deferred (some [])) ∧ (∃ r, W.heap[w2.heap.size + 1]? = some (.loop r)) ∧ Ext w W) (((w2.alloc (.deferred (some []))).alloc o2).putObj (w2.heap.size + 1) (.loop r3)) := fun o2 r3 => by
      have u := Upd.putObj (o' := .loop r3) (hal2 w2 (.deferred (some [])) o2)
      have hx2 := x2.trans (hx (.deferred (some [])) o2)
      have hsz := x2.size
      exact ⟨⟨(u.oth b1 (by omega)).trans (hS.ext' (hx (.deferred (some [])) o2)).at_⟩, (u.oth _ (by omega)).trans (hal1 w2 _ o2), ⟨r3, u.has.at_⟩, ⟨bel_upd hx2.below u (by omega)⟩⟩
    refine WI.abs (Pw := fun W : World => Has W b1 (.cells #[.pointer none] tSL) ∧ W.heap[w2.heap.size]? = some (.deferred (some [])) ∧ (∃ r, W.heap[w2.heap.size + 1]? = some (.loop r)) ∧ Ext w W) (facts _ _) ?_
    rintro W ⟨g1, g2, ⟨r3, g3⟩, g4⟩
    (repeat (first
        | (guard_target =~ gUI _; first
            | (guard_target =~ gUI []; first | refine WUI.nilk ?_ | refine WUI.nil ?_)
            | refine WUI.yld rfl rfl rfl rfl zyl ?_
            | refine WUI.skip rfl rfl rfl ?_)
        | (guard_target =~ gWI (.seq _ _); refine WI.seq ?_)
        | (guard_target =~ gWI (.region _ _ false); refine WI.reg ?_)
        | (guard_target =~ gWI (.cond _ _ _); first | refine WI.cond_t rfl ?_ | refine WI.cond_f rfl ?_)
        | (guard_target =~ gWI (.block _ _); refine WI.block ?_)
        | (guard_target =~ gWI .skip; refine WI.skip ?_)
        | (guard_target =~ gWI (.exit _); refine WI.exit ?_)
        | (guard_target =~ gWI .ret; refine WI.ret ?_)
        | (guard_target =~ gT .normal; refine thn_normal ?_)
        | (guard_target =~ gT (.exit _); refine thn_exit ?_)
        | (guard_target =~ gT .ret; refine thn_ret ?_)
        | (guard_target =~ gI .normal; refine inb_normal ?_)
        | (guard_target =~ gI (.exit _); first | refine inb_hit ?_ | refine inb_miss rfl ?_)
        | (guard_target =~ gI .ret; refine inb_ret ?_)))
    refine WUI.stp rfl rfl rfl rfl (stp_call rfl (c_isString_slice sb W)) ?_
    rintro _ _ ⟨rfl, rfl⟩
    (repeat (first
        | (guard_target =~ gUI _; first
            | (guard_target =~ gUI []; first | refine WUI.nilk ?_ | refine WUI.nil ?_)
            | refine WUI.yld rfl rfl rfl rfl zyl ?_
            | refine WUI.skip rfl rfl rfl ?_)
        | (guard_target =~ gWI (.seq _ _); refine WI.seq ?_)
        | (guard_target =~ gWI (.region _ _ false); refine WI.reg ?_)
        | (guard_target =~ gWI (.cond _ _ _); first | refine WI.cond_t rfl ?_ | refine WI.cond_f rfl ?_)
        | (guard_target =~ gWI (.block _ _); refine WI.block ?_)
        | (guard_target =~ gWI .skip; refine WI.skip ?_)
        | (guard_target =~ gWI (.exit _); refine WI.exit ?_)
        | (guard_target =~ gWI .ret; refine WI.ret ?_)
        | (guard_target =~ gT .normal; refine thn_normal ?_)
        | (guard_target =~ gT (.exit _); refine thn_exit ?_)
        | (guard_target =~ gT .ret; refine thn_ret ?_)
        | (guard_target =~ gI .normal; refine inb_normal ?_)
        | (guard_target =~ gI (.exit _); first | refine inb_hit ?_ | refine inb_miss rfl ?_)
        | (guard_target =~ gI .ret; refine inb_ret ?_)))
    refine WUI.stp rfl rfl rfl rfl (stp_invoke rfl rfl (c_Slice_Underlying sb W)) ?_
    rintro _ _ ⟨rfl, rfl⟩
    (repeat (first
        | (guard_target =~ gUI _; first
            | (guard_target =~ gUI []; first | refine WUI.nilk ?_ | refine WUI.nil ?_)
            | refine WUI.yld rfl rfl rfl rfl zyl ?_
            | refine WUI.skip rfl rfl rfl ?_)
        | (guard_target =~ gWI (.seq _ _); refine WI.seq ?_)
        | (guard_target =~ gWI (.region _ _ false); refine WI.reg ?_)
        | (guard_target =~ gWI (.cond _ _ _); first | refine WI.cond_t rfl ?_ | refine WI.cond_f rfl ?_)
        | (guard_target =~ gWI (.block _ _); refine WI.block ?_)
        | (guard_target =~ gWI .skip; refine WI.skip ?_)
        | (guard_target =~ gWI (.exit _); refine WI.exit ?_)
        | (guard_target =~ gWI .ret; refine WI.ret ?_)
        | (guard_target =~ gT .normal; refine thn_normal ?_)
        | (guard_target =~ gT (.exit _); refine thn_exit ?_)
        | (guard_target =~ gT .ret; refine thn_ret ?_)
        | (guard_target =~ gI .normal; refine inb_normal ?_)
        | (guard_target =~ gI (.exit _); first | refine inb_hit ?_ | refine inb_miss rfl ?_)
        | (guard_target =~ gI .ret; refine inb_ret ?_)))
    refine WUI.stp0 rfl rfl rfl (stp_store_cell rfl rfl rfl rfl) ?_
    rintro _ W' u'
    (repeat (first
        | (guard_target =~ gUI _; first
            | (guard_target =~ gUI []; first | refine WUI.nilk ?_ | refine WUI.nil ?_)
            | refine WUI.yld rfl rfl rfl rfl zyl ?_
            | refine WUI.skip rfl rfl rfl ?_)
        | (guard_target =~ gWI (.seq _ _); refine WI.seq ?_)
        | (guard_target =~ gWI (.region _ _ false); refine WI.reg ?_)
        | (guard_target =~ gWI (.cond _ _ _); first | refine WI.cond_t rfl ?_ | refine WI.cond_f rfl ?_)
        | (guard_target =~ gWI (.block _ _); refine WI.block ?_)
        | (guard_target =~ gWI .skip; refine WI.skip ?_)
        | (guard_target =~ gWI (.exit _); refine WI.exit ?_)
        | (guard_target =~ gWI .ret; refine WI.ret ?_)
        | (guard_target =~ gT .normal; refine thn_normal ?_)
        | (guard_target =~ gT (.exit _); refine thn_exit ?_)
        | (guard_target =~ gT .ret; refine thn_ret ?_)
        | (guard_target =~ gI .normal; refine inb_normal ?_)
        | (guard_target =~ gI (.exit _); first | refine inb_hit ?_ | refine inb_miss rfl ?_)
        | (guard_target =~ gI .ret; refine inb_ret ?_)))
    have hne : b1 ≠ w2.heap.size + 1 := by omega
    have hsz := x2.size
    have hge : w.heap.size ≤ b1 := by have := n1.num; omega
    have k3 : W'.heap[w2.heap.size + 1]? = some (.loop r3) := (u'.oth _ (Ne.symm hne)).trans g3
    have u4 := Upd.putObj (o' := .loop { r3 with state := .ready, pending := none }) k3
    refine ⟨rfl, r3, k3, rfl, _, u4.has.at_, rfl, rfl, ⟨(u4.oth b1 hne).trans u'.has.at_⟩, ?_, ⟨bel_upd (bel_upd g4.below u' hge) u4 (by omega)⟩⟩
    rw [u4.oth _ (by omega), u'.oth _ (by omega)]
    exact g2
  · rintro en w3 ⟨v, rfl, u, rfl, r', h1, h2, h3, h4, h5, h6⟩
    have u3 := Upd.putObj (o' := .loop { r' with state := .exhausted }) h1
    refine ⟨v, r', rfl, h1, by rw [h2]; decide, h3, ?_⟩
    have hne : b1 ≠ w2.heap.size + 1 := by omega
    have h4' : Has (w3.putObj (w2.heap.size + 1) (.loop { r' with state := .exhausted })) b1 (.cells #[pt sb] tSL) := ⟨(u3.oth b1 hne).trans h4.at_⟩
    have h5' : (w3.putObj (w2.heap.size + 1) (.loop { r' with state := .exhausted })).heap[w2.heap.size]? = some (.deferred (some [])) := (u3.oth _ (by omega)).trans h5
    have x4 : Ext w (w3.putObj (w2.heap.size + 1) (.loop { r' with state := .exhausted })) := ⟨bel_upd h6.below u3 (by have := x2.size; omega)⟩
    generalize w3.putObj (w2.heap.size + 1) (.loop { r' with state := .exhausted }) = w4 at *
    refine zst ?_
    refine WU.stp rfl rfl rfl (by first | exact stp_box rfl rfl | exact stp_box1 rfl rfl) ?_
    rintro _ w5 ⟨b5, rfl, n5⟩
    refine zst ?_
    have hw2 := x2.size
    have hb5 := n5.num
    have h5x : w5.heap[w2.heap.size]? = some (.deferred (some [])) := (n5.ext.below.block _ (Array.getElem?_eq_some_iff.1 h5').1).trans h5'
    have u6 := Upd.putObj (o' := .deferred none) h5x
    have hlt : w2.heap.size < b5 := by have := (Array.getElem?_eq_some_iff.1 h5').1; omega
    refine ⟨.inl rfl, w2.heap.size, _, rfl, h5x, rfl, b5, rfl, by omega, ⟨(u6.oth b5 (by omega)).trans n5.has.at_⟩, ⟨bel_upd (x4.trans n5.ext).below u6 hw2⟩⟩
end Go.Proofs.YtelmnkfdpnkpoaaGreatDoor
namespace Go.Proofs.YtelmnkfdpnkpoaaGreatDoor
open Go Go.Kd
set_option maxRecDepth 100000

/-- while types are made only the builder and its list turn -/
theorem mc0 {K : Cfg} {b t : Nat} {cs : Array Value} {i : Nat} (h1 : t ≠ tBU) (h2 : t ≠ tPI) : mc K 0 b t cs i = false := by
  unfold mc
  split
  · simp
  split
  · simp
  split
  · simp
  split
  · simp
  split
  · simp
  · simpa using h2
theorem Has.sta0 {K : Cfg} {w w' : World} {b t : Nat} {cs : Array Value} {fz : Nat × Nat} (x : Sta K 0 w w') (h1 : t ≠ tBU) (h2 : t ≠ tPI) (h : Has w b (.cells cs t fz)) : Has w' b (.cells cs t fz) := by
  obtain ⟨cs', k1, k2⟩ := x.has h2 h
  have : cs' = cs := by
    apply Array.ext_getElem?
    intro i
    exact k2.cell i (mc0 h1 h2)
  rw [← this]; exact k1
theorem Has.staB {K : Cfg} {l : Nat} {w w' : World} {b : Nat} {c0 c1 c2 c3 c4 : Value} (x : Sta K l w w') (h : Has w b (.cells #[c0, c1, c2, c3, c4] tBU)) : ∃ v, Has w' b (.cells #[c0, c1, c2, c3, v] tBU) := by
  obtain ⟨cs', k1, k2⟩ := x.has (by decide) h
  have hs : cs'.size = 5 := k2.size
  have hc : ∀ i, i ≠ 4 → cs'[i]? = (#[c0, c1, c2, c3, c4] : Array Value)[i]? := fun i hi => k2.cell i (by
    unfold mc
    simp only [show ¬ tBU = tTY from by decide, show ¬ tBU = tIF from by decide, show ¬ tBU = tSG from by decide, show ¬ tBU = tNM from by decide, show ¬ tBU = tTN from by decide, if_false, if_true]
    simp [hi])
  refine ⟨cs'[4], ?_⟩
  have : cs' = #[c0, c1, c2, c3, cs'[4]] := by
    apply Array.ext_getElem?
    intro i
    by_cases hi : i = 4
    · subst hi; simp [hs]
    · rw [hc i hi]
      match i, hi with
      | 0, _ | 1, _ | 2, _ | 3, _ => rfl
      | i + 5, _ => rw [Array.getElem?_eq_none (by simp), Array.getElem?_eq_none (by simp)]
  rw [← this]; exact k1

def isIf (t : Ty) : Prop := t.kind = 9 ∨ (t.kind = 0 ∧ t.n = 21)
def IfT (w : World) (b : Nat) (ts : Value) : Prop := ∃ ma mn mc ea en ec, Has w b (.cells (ifc ma mn mc ea en ec ts) tIF)
theorem IfT.sta0 {K : Cfg} {w w' : World} (x : Sta K 0 w w') {b : Nat} {ts : Value} (h : IfT w b ts) : IfT w' b ts := by
  obtain ⟨ma, mn, mc, ea, en, ec, h⟩ := h
  exact ⟨ma, mn, mc, ea, en, ec, Has.sta0 x (by decide) (by decide) h⟩
abbrev IfN (w : World) (b : Nat) : Prop := IfT w b (.pointer none)
def TsE (w : World) (b : Nat) : Prop := ∃ tb v, IfT w b (pt tb) ∧ Has w tb (.cells #[.bool false, .slice none 0 0, v, .bool false] tTS) ∧ AllT w v
def Fresh (w : World) (b : Nat) (t : Ty) : Prop := IfN w b ∨ (TsE w b ∧ (t.kind = 0 ∨ t.elems = []))
theorem Fresh.sta0 {K : Cfg} {w w' : World} (x : Sta K 0 w w') {b : Nat} {t : Ty} (h : Fresh w b t) : Fresh w' b t := by
  rcases h with h | ⟨⟨tb, v, h1, h2, h3⟩, h4⟩
  · exact .inl (h.sta0 x)
  · exact .inr ⟨⟨tb, v, h1.sta0 x, Has.sta x h2, h3.sta x⟩, h4⟩

abbrev Big : Nat := 268435456
/-- a type of the right form, and legal -/
def WfI (D : List De) (u : Ty) : Prop := (∃ j v, j ≤ D.length ∧ Shaped D j v u) ∧ wt u ≤ Big ∧ Legal D u
/-- an interface's block is known: it was built from a type -/
def Kno (K : Cfg) (s : Gs) (w : World) (b : Nat) : Prop := ∃ u, s.g b = some u ∧ isIf u ∧ WfI K.D u ∧ RT K s w s.sl (.iface tPI (pt b)) u
theorem Kno.map {K : Cfg} {s s' : Gs} {w w' : World} {b : Nat} (h : Kno K s w b) (f : ∀ v t, RT K s w s.sl v t → RT K s' w' s'.sl v t) (g : ∀ b u, s.g b = some u → s'.g b = some u) : Kno K s' w' b := by
  obtain ⟨u, h1, h2, h3, h4⟩ := h
  exact ⟨u, g b u h1, h2, h3, f _ _ h4⟩
abbrev tPK : Nat := 118
def pth (n : Int) : ByteArray := if n = 0 then ⟨#[112]⟩ else ⟨#[113]⟩
def PkgOK (s : Gs) (w : World) : Prop := ∀ n, n = 0 ∨ n = 1 → ∃ c x, s.pk n = pt c ∧ Has w c (.cells #[.string (pth n), .string x] tPK)
def IsI (v : Value) : Prop := ∃ T b, v = .iface T (pt b)
structure BI (K : Cfg) (s : Gs) (w : World) (bb : Nat) (made : List Nat) : Prop where
  N : K.N ≤ bb
  nbN : K.N ≤ K.nb
  nbL : K.nb < w.heap.size
  pkg : PkgOK s w
  er : IsI s.er
  nm : ∀ i u, s.nm i = some u → IsI u
  gl : ∀ b u, s.g b = some u → b < w.heap.size
  sll : ∀ d, s.sl d → d < w.heap.size
  kn : ∀ b, b ∈ made → Kno K s w b
  ex : ∃ na nl nc v, Has w bb (.cells #[s.pk 0, s.pk 1, .slice na nl nc, s.er, v] tBU) ∧ Own w K.N tPI 1 v (made.map fun b => [pt b]) ∧
    ∀ i u, s.nm i = some u → ∃ cs, na = some ⟨K.nb, 0, none⟩ ∧ i < nl ∧ Has w K.nb (.cells cs tTY) ∧ cs[i]? = some u
/-- what the builder reads lies as it lay -/
theorem BI.keep {K : Cfg} {s : Gs} {w w' : World} {bb : Nat} {made : List Nat} (h : BI K s w bb made) (hz : w.heap.size ≤ w'.heap.size)
    (hs : ∀ d cs t, w.heap[d]? = some (.cells cs t (0, 0)) → t = tBU ∨ t = tTY ∧ d = K.nb ∨ t = tPK ∨ t = tPI → w'.heap[d]? = w.heap[d]?) (hk : ∀ v t, RT K s w s.sl v t → RT K s w' s.sl v t) : BI K s w' bb made := by
  obtain ⟨na, nl, nc, v, h1, h2, h3⟩ := h.ex
  refine ⟨h.N, h.nbN, Nat.lt_of_lt_of_le h.nbL hz, fun n hn => ?_, h.er, h.nm, fun b u hb => Nat.lt_of_lt_of_le (h.gl b u hb) hz, fun d hd => Nat.lt_of_lt_of_le (h.sll d hd) hz, fun b hb => (h.kn b hb).map hk (fun _ _ h => h), na, nl, nc, v, ⟨(hs _ _ _ h1.at_ (.inl rfl)).trans h1.at_⟩, h2.kept fun k hk => ?_, fun i u hu => ?_⟩
  · obtain ⟨c, x, k1, k2⟩ := h.pkg n hn
    exact ⟨c, x, k1, ⟨(hs _ _ _ k2.at_ (.inr (.inr (.inl rfl)))).trans k2.at_⟩⟩
  · rcases h2.row.2 with ⟨e, _⟩ | ⟨g, cap, cur, e, _, e3, _⟩
    · rw [e] at hk; cases hk
    · rw [e] at hk
      cases hk
      exact hs _ _ _ e3 (.inr (.inr (.inr rfl)))
  · obtain ⟨cs, k1, k2, k3, k4⟩ := h3 i u hu
    exact ⟨cs, k1, k2, ⟨(hs _ _ _ k3.at_ (.inr (.inl ⟨rfl, rfl⟩))).trans k3.at_⟩, k4⟩
theorem BI.ext {K : Cfg} {s : Gs} {w w' : World} {bb : Nat} {made : List Nat} (x : Ext w w') (h : BI K s w bb made) : BI K s w' bb made :=
  h.keep x.size (fun d _ _ hd _ => x.below.block d (Array.getElem?_eq_some_iff.1 hd).1) fun _ _ hr => hr.sta (l := 0) (.of_ext x) (by omega)

structure Gs.gle (s s' : Gs) : Prop where
  nm : s'.nm = s.nm
  er : s'.er = s.er
  pk : s'.pk = s.pk
  g : ∀ b t, s.g b = some t → s'.g b = some t
  sl : ∀ d, s.sl d → s'.sl d
theorem Gs.gle.le {s s' : Gs} (h : s.gle s') : s.le s' := ⟨fun i v hi => by rw [h.nm]; exact hi, h.g, h.er, h.pk⟩
theorem Gs.gle.rfl' (s : Gs) : s.gle s := ⟨rfl, rfl, rfl, fun _ _ h => h, fun _ h => h⟩
theorem Gs.gle.trans {a b c : Gs} (h : a.gle b) (k : b.gle c) : a.gle c := ⟨k.nm.trans h.nm, k.er.trans h.er, k.pk.trans h.pk, fun d t x => k.g d t (h.g d t x), fun d x => k.sl d (h.sl d x)⟩
/-- blocks that nobody appends to any more -/
def Gs.clo (s : Gs) (lo hi : Nat) : Gs := { s with sl := fun d => s.sl d ∨ (lo ≤ d ∧ d < hi) }
theorem Gs.gle_seal (s : Gs) (lo hi : Nat) : s.gle (s.clo lo hi) := ⟨rfl, rfl, rfl, fun _ _ h => h, fun _ h => .inl h⟩
theorem Gs.gle_set {s : Gs} {b : Nat} {t : Ty} (h : s.g b = none) : s.gle (s.set b t) := ⟨rfl, rfl, rfl, fun c u hc => by
  unfold Gs.set
  by_cases hcb : c = b
  · subst hcb; rw [h] at hc; cases hc
  · simp [hcb, hc], fun _ h => h⟩
theorem Gs.set_same (s : Gs) (b : Nat) (t : Ty) : (s.set b t).g b = some t := by simp [Gs.set]
theorem BI.fresh {K : Cfg} {s : Gs} {w : World} {bb : Nat} {made : List Nat} (h : BI K s w bb made) {b : Nat} (hb : w.heap.size ≤ b) : s.g b = none := by
  cases hg : s.g b with
  | none => rfl
  | some u => have := h.gl b u hg; omega
theorem BI.clo {K : Cfg} {s : Gs} {w : World} {bb : Nat} {made : List Nat} (h : BI K s w bb made) (lo : Nat) {hi : Nat} (hh : hi ≤ w.heap.size) : BI K (s.clo lo hi) w bb made :=
  ⟨h.N, h.nbN, h.nbL, h.pkg, h.er, h.nm, h.gl, fun d hd => hd.elim (h.sll d) fun h => by omega, fun b hb => (h.kn b hb).map (fun _ _ hr => (hr.le (Gs.gle_seal s lo hi).le).mono fun d _ hd => .inl hd) (fun _ _ h => h), h.ex⟩
theorem BI.set {K : Cfg} {s : Gs} {w : World} {bb : Nat} {made : List Nat} (h : BI K s w bb made) {b : Nat} {t : Ty} (hn : s.g b = none) (hb : b < w.heap.size) : BI K (s.set b t) w bb made :=
  ⟨h.N, h.nbN, h.nbL, h.pkg, h.er, h.nm, fun c u hc => by
    unfold Gs.set at hc
    by_cases hcb : c = b
    · omega
    · simp only [hcb, if_false] at hc; exact h.gl c u hc, h.sll, fun c hc => (h.kn c hc).map (fun _ _ hr => hr.le (Gs.gle_set hn).le) (Gs.gle_set hn).g, h.ex⟩

/-- what is new among what is known of the blocks -/
def GN (s s' : Gs) (w w' : World) (new : List Nat) : Prop := ∀ b u, s'.g b = some u → s.g b = some u ∨ (w.heap.size ≤ b ∧ b < w'.heap.size ∧ (isIf u → b ∈ new ∧ Fresh w' b u))
theorem GN.rfl' (s : Gs) (w w' : World) : GN s s w w' [] := fun _ _ h => .inl h
theorem GN.trans {K : Cfg} {s1 s2 s3 : Gs} {w1 w2 w3 : World} {n1 n2 : List Nat} (h : GN s1 s2 w1 w2 n1) (k : GN s2 s3 w2 w3 n2) (x1 : w1.heap.size ≤ w2.heap.size) (x : Sta K 0 w2 w3) : GN s1 s3 w1 w3 (n1 ++ n2) := fun b u hb => by
  rcases k b u hb with h2 | ⟨h2, h3, h4⟩
  · rcases h b u h2 with h5 | ⟨h5, h6, h7⟩
    · exact .inl h5
    · exact .inr ⟨h5, Nat.lt_of_lt_of_le h6 x.size, fun hi => ⟨List.mem_append_left _ (h7 hi).1, (h7 hi).2.sta0 x⟩⟩
  · exact .inr ⟨by omega, h3, fun hi => ⟨List.mem_append_right _ (h4 hi).1, (h4 hi).2⟩⟩
theorem GN.ext {s1 s2 : Gs} {w0 w1 w2 w3 : World} {n : List Nat} (h : GN s1 s2 w1 w2 n) (x : Ext w0 w1) (y : Sta ⟨0, 0, []⟩ 0 w2 w3) : GN s1 s2 w0 w3 n := fun b u hb => by
  rcases h b u hb with h5 | ⟨h5, h6, h7⟩
  · exact .inl h5
  · exact .inr ⟨Nat.le_trans x.size h5, Nat.lt_of_lt_of_le h6 y.size, fun hi => ⟨(h7 hi).1, (h7 hi).2.sta0 y⟩⟩
theorem GN.set {s s' : Gs} {w w' : World} {n : List Nat} (h : GN s s' w w' n) {b : Nat} {t : Ty} (hb : w.heap.size ≤ b) (hb' : b < w'.heap.size) (ht : ¬ isIf t) : GN s (s'.set b t) w w' n := fun c u hc => by
  unfold Gs.set at hc
  by_cases hcb : c = b
  · subst hcb
    simp only [if_true, Option.some.injEq] at hc
    subst hc
    exact .inr ⟨hb, hb', fun hi => absurd hi ht⟩
  · simp only [hcb, if_false] at hc
    exact h c u hc

/-- what is there when a type is to be made -/
structure Ctx (D : List De) (K : Cfg) (i : Nat) (s : Gs) (w : World) (bb : Nat) (made : List Nat) : Prop where
  bi : BI K s w bb made
  nms : ∀ (n : Nat) e, D[n]? = some e → (e.al = false ∨ n < i) → ∃ u, s.nm n = some u
  prp : Prp w
  gN : gP < K.N
  dk : K.D = D
  il : i ≤ D.length
theorem Ctx.ext {D : List De} {K : Cfg} {i : Nat} {s : Gs} {w w' : World} {bb : Nat} {made : List Nat} (x : Ext w w') (h : Ctx D K i s w bb made) : Ctx D K i s w' bb made := ⟨h.bi.ext x, h.nms, h.prp.ext x, h.gN, h.dk, h.il⟩
/-- what has been made; n: how many interfaces at most -/
structure Made (K : Cfg) (s : Gs) (w : World) (bb : Nat) (made : List Nat) (n : Nat) (s' : Gs) (new : List Nat) (w' : World) : Prop where
  gle : s.gle s'
  sta : Sta K 0 w w'
  bi : BI K s' w' bb (made ++ new)
  len : new.length ≤ n
  gn : GN s s' w w' new
  sn : ∀ d, s'.sl d → s.sl d ∨ (w.heap.size ≤ d ∧ d < w'.heap.size)
theorem Made.rfl' {K : Cfg} {s : Gs} {w w' : World} {bb : Nat} {made : List Nat} (h : BI K s w bb made) (x : Ext w w') : Made K s w bb made 0 s [] w' :=
  ⟨.rfl' s, .of_ext x, by rw [List.append_nil]; exact h.ext x, Nat.le_refl _, GN.rfl' s w w', fun _ h => .inl h⟩
theorem Made.trans {K : Cfg} {s1 s2 s3 : Gs} {w1 w2 w3 : World} {bb : Nat} {made n1 n2 : List Nat} {m1 m2 : Nat} (h : Made K s1 w1 bb made m1 s2 n1 w2) (k : Made K s2 w2 bb (made ++ n1) m2 s3 n2 w3) : Made K s1 w1 bb made (m1 + m2) s3 (n1 ++ n2) w3 :=
  ⟨h.gle.trans k.gle, h.sta.trans k.sta, by rw [← List.append_assoc]; exact k.bi, by rw [List.length_append]; have := h.len; have := k.len; omega, h.gn.trans k.gn h.sta.size k.sta, fun d hd => by
    have h1 := h.sta.size
    have h2 := k.sta.size
    rcases k.sn d hd with h3 | h3
    · exact (h.sn d h3).imp id fun h4 => by omega
    · exact .inr (by omega)⟩
theorem Made.le {K : Cfg} {s1 s2 : Gs} {w1 w2 : World} {bb : Nat} {made n1 : List Nat} {m1 m2 : Nat} (h : Made K s1 w1 bb made m1 s2 n1 w2) (hm : m1 ≤ m2) : Made K s1 w1 bb made m2 s2 n1 w2 := ⟨h.gle, h.sta, h.bi, Nat.le_trans h.len hm, h.gn, h.sn⟩
theorem Made.before {K : Cfg} {s1 s2 : Gs} {w0 w1 w2 : World} {bb : Nat} {made n1 : List Nat} {m : Nat} (h : Made K s1 w1 bb made m s2 n1 w2) (x : Ext w0 w1) : Made K s1 w0 bb made m s2 n1 w2 :=
  ⟨h.gle, (Sta.of_ext x).trans h.sta, h.bi, h.len, h.gn.ext x (.rfl' ..), fun d hd => (h.sn d hd).imp id fun h4 => ⟨Nat.le_trans x.size h4.1, h4.2⟩⟩
theorem Made.ext {K : Cfg} {s1 s2 : Gs} {w1 w2 w3 : World} {bb : Nat} {made n1 : List Nat} {m : Nat} (h : Made K s1 w1 bb made m s2 n1 w2) (x : Ext w2 w3) : Made K s1 w1 bb made m s2 n1 w3 :=
  ⟨h.gle, h.sta.ext x, h.bi.ext x, h.len, h.gn.ext (Ext.rfl' _) (.of_ext x), fun d hd => (h.sn d hd).imp id fun h4 => ⟨h4.1, Nat.lt_of_lt_of_le h4.2 x.size⟩⟩
/-- one more block, of no interface -/
theorem Made.set {K : Cfg} {s1 s2 : Gs} {w1 w2 : World} {bb : Nat} {made n1 : List Nat} {m : Nat} (h : Made K s1 w1 bb made m s2 n1 w2) {b : Nat} {t : Ty} (hb : w1.heap.size ≤ b) (hn : s2.g b = none) (hb' : b < w2.heap.size) (ht : ¬ isIf t) :
    Made K s1 w1 bb made m (s2.set b t) n1 w2 := ⟨h.gle.trans (Gs.gle_set hn), h.sta, h.bi.set hn hb', h.len, h.gn.set hb hb' ht, h.sn⟩
theorem Ctx.made {D : List De} {K : Cfg} {i : Nat} {s s' : Gs} {w w' : World} {bb : Nat} {made new : List Nat} {n : Nat} (h : Ctx D K i s w bb made) (m : Made K s w bb made n s' new w') : Ctx D K i s' w' bb (made ++ new) :=
  ⟨m.bi, fun k e he hk => by rw [m.gle.nm]; exact h.nms k e he hk, h.prp.sta m.sta h.gN, h.gN, h.dk, h.il⟩
/-- a type is made -/
def Res (K : Cfg) (s : Gs) (w : World) (bb : Nat) (made : List Nat) (t : Ty) (r : Value) (w' : World) : Prop :=
  ∃ s' new, Made K s w bb made (wt t) s' new w' ∧ RT K s' w' (fun b => w.heap.size ≤ b) r t ∧ IsI r
/-- .. from a world that came a little later -/
theorem Res.before {K : Cfg} {s : Gs} {w0 w w' : World} {bb : Nat} {made : List Nat} {t : Ty} {r : Value} (x : Ext w0 w) (h : Res K s w bb made t r w') : Res K s w0 bb made t r w' := by
  obtain ⟨s', new, h1, h2, h3⟩ := h
  exact ⟨s', new, h1.before x, h2.mono fun b _ hb => Nat.le_trans x.size hb, h3⟩
/-- what is asked of a type -/
structure Ask (D : List De) (i : Nat) (w : World) (K : Cfg) (p : Nat → Prop) (cs : List Value) (t : Ty) : Prop where
  v : TyV w p cs t
  p : ∀ b, p b → b < K.N ∧ b < w.heap.size
  sh : ∃ v, Shaped D i v t
  lg : Legal D t
theorem Ask.ext {D : List De} {i : Nat} {w w' : World} {K : Cfg} {p : Nat → Prop} {cs : List Value} {t : Ty} (x : Ext w w') (h : Ask D i w K p cs t) : Ask D i w' K p cs t := ⟨h.v.ext x, fun b hb => ⟨(h.p b hb).1, Nat.lt_of_lt_of_le (h.p b hb).2 x.size⟩, h.sh, h.lg⟩
theorem Ask.sta {D : List De} {i l : Nat} {w w' : World} {K : Cfg} {p : Nat → Prop} {cs : List Value} {t : Ty} (x : Sta K l w w') (h : Ask D i w K p cs t) : Ask D i w' K p cs t :=
  ⟨h.v.same (x.olds h.p), fun b hb => ⟨(h.p b hb).1, Nat.lt_of_lt_of_le (h.p b hb).2 x.size⟩, h.sh, h.lg⟩
/-- the contract of typ at a type -/
def TypC (D : List De) (K : Cfg) (i : Nat) (t : Ty) : Prop := ∀ (s : Gs) (w : World) (bb : Nat) (made : List Nat) (p : Nat → Prop) (cs : List Value), Ctx D K i s w bb made → Ask D i w K p cs t → wt t + made.length ≤ Big →
  Calls Tryz.prog 69 #[pt bb, .agg cs.toArray] w (Ret (Res K s w bb made t))
end Go.Proofs.YtelmnkfdpnkpoaaGreatDoor
namespace Go.Proofs.YtelmnkfdpnkpoaaGreatDoor
open Go Go.Kd
set_option maxRecDepth 100000

theorem Own.ne {w : World} {base el sz : Nat} {v : Value} {ls : List (List Value)} (h : Own w base el sz v ls) {b t : Nat} {cs : Array Value} {fz : Nat × Nat} (hb : Has w b (.cells cs t fz)) (ht : t ≠ el) : ∀ k, v.ownBlock = some k → k ≠ b := fun k hk e => by
  rcases h.row.2 with ⟨h1, _⟩ | ⟨g, cap, cur, h1, _, h3, _⟩
  · rw [h1] at hk; cases hk
  · rw [h1] at hk
    cases hk
    subst e
    have := h3.symm.trans hb.at_
    simp at this
    exact ht this.2.1.symm
theorem mok_made {K : Cfg} {l b : Nat} {c0 c1 c2 c3 c4 c5 : Value} : MOk K l b tBU #[c0, c1, c2, c3, c4] #[c0, c1, c2, c3, c5] := ⟨rfl, fun i hi => by
  have h4 : i ≠ 4 := fun e => by
    subst e
    unfold mc at hi
    simp only [show ¬ tBU = tTY from by decide, show ¬ tBU = tIF from by decide, show ¬ tBU = tSG from by decide, show ¬ tBU = tNM from by decide, show ¬ tBU = tTN from by decide, if_false, if_true] at hi
    simp at hi
  match i, h4 with
  | 0, _ | 1, _ | 2, _ | 3, _ => rfl
  | i + 5, _ => rfl⟩
/-- one more interface in the builder's list -/
theorem BI.push {K : Cfg} {s : Gs} {w w2 w3 : World} {bb : Nat} {made : List Nat} (h : BI K s w bb made) {b : Nat} (hkb : Kno K s w b) {na : Option Addr} {nl nc : Nat} {v v' : Value} (h1 : Has w bb (.cells #[s.pk 0, s.pk 1, .slice na nl nc, s.er, v] tBU)) (h2 : Own w K.N tPI 1 v (made.map fun b => [pt b]))
    (h3 : ∀ i u, s.nm i = some u → ∃ cs, na = some ⟨K.nb, 0, none⟩ ∧ i < nl ∧ Has w K.nb (.cells cs tTY) ∧ cs[i]? = some u)
    (a : App w w2 v) (h4 : Own w2 K.N tPI 1 v' (made.map (fun b => [pt b]) ++ [[pt b]])) (u : Upd w2 bb (.cells #[s.pk 0, s.pk 1, .slice na nl nc, s.er, v'] tBU) w3) : BI K s w3 bb (made ++ [b]) ∧ Sta K 0 w w3 := by
  have k2 : Has w2 bb (.cells #[s.pk 0, s.pk 1, .slice na nl nc, s.er, v] tBU) := App.keep a h1 (Own.ne h2 h1 (by decide))
  have hst : Sta K 0 w w3 := (Sta.of_app a h2 (Nat.le_refl _)).trans (.of_upd k2 u h.N mok_made)
  refine ⟨⟨h.N, h.nbN, Nat.lt_of_lt_of_le h.nbL hst.size, fun n hn => ?_, h.er, h.nm, fun c x hc => Nat.lt_of_lt_of_le (h.gl c x hc) hst.size, fun d hd => Nat.lt_of_lt_of_le (h.sll d hd) hst.size, fun c hc => (show Kno K s w c from (List.mem_append.1 hc).elim (h.kn c) fun h => (List.mem_singleton.1 h) ▸ hkb).map (fun _ _ hr => hr.sta hst (by omega)) (fun _ _ h => h), na, nl, nc, v', u.has, ?_, fun i x hx => ?_⟩, hst⟩
  · obtain ⟨c, x, k1, k2⟩ := h.pkg n hn
    exact ⟨c, x, k1, Has.sta hst k2⟩
  · rw [List.map_append, List.map_singleton]
    exact h4.upd u (Own.ne h4 k2 (by decide))
  · obtain ⟨cs, k1, k2, k3, k4⟩ := h3 i x hx
    exact ⟨cs, k1, k2, Has.sta0 hst (by decide) (by decide) k3, k4⟩
theorem Fresh.tse {w : World} {b tb : Nat} {v : Value} {t : Ty} (h1 : Has w b (.cells (ifc none 0 0 none 0 0 (pt tb)) tIF)) (h2 : Has w tb (.cells #[.bool false, .slice none 0 0, v, .bool false] tTS)) (h3 : AllT w v) (ht : t.kind = 0 ∨ t.elems = []) : Fresh w b t :=
  .inr ⟨⟨tb, v, ⟨_, _, _, _, _, _, h1⟩, h2, h3⟩, ht⟩
theorem frow0 (w : World) (fb : Nat → Nat) (pk : Nat → Value) (nm path : Nat → ByteArray) (vv : Nat → Value) : FRow w 0 fb pk nm path vv := ⟨fun i hi => by omega, fun i hi => by omega, fun i hi => by omega, fun i j hi => by omega⟩

set_option maxHeartbeats 4000000 in
theorem c_basic (D : List De) (K : Cfg) (i : Nat) (s : Gs) (w : World) (bb : Nat) (made : List Nat) (t : Ty) (hx : Ctx D K i s w bb made) (hk : t.kind = 0) (h0 : 0 ≤ t.n) (h1 : t.n < 22) (hb : made.length < 1073741824) (hwf : WfI D t) :
    Calls Tryz.prog 92 #[pt bb, .int .i64 t.n] w (Ret (Res K s w bb made t)) := by
  obtain ⟨na, nl, nc, vm, hbb, how, hnm⟩ := hx.bi.ex
  have hwt := wt_pos t
  have fin : ∀ (n : Int), t.n = n → n < 20 → ∀ (b : Nat) (i : Int) (nm : ByteArray) (w' : World), w.heap.size ≤ b → Has w' b (.cells #[.int .i64 (bk n), .int .i64 i, .string nm] 180) → Ext w w' → Res K s w bb made t (.iface 123 (pt b)) w' := fun n hn hn2 b i nm w' hge hhas x => by
    subst hn
    have hnone := hx.bi.fresh hge
    have hni : ¬ isIf t := by
      rintro (h | h)
      · omega
      · omega
    exact ⟨_, _, ((Made.rfl' hx.bi x).le (by omega)).set hge hnone hhas.lt hni, .basic t b i nm hk h0 hn2 hge hhas (Gs.set_same ..), _, _, rfl⟩
  generalize hn : t.n = n at *
  by_cases h21 : n = 21
  · subst h21
    refine W.enter (args := [pt bb, .int .i64 21]) Tryz.func92 rfl Tryz.ntmps92 rfl rfl ?_
    refine zst ?_
    refine WU.stp rfl rfl rfl (stp_call rfl (c_NewInterfaceType K none none 0 0 0 0 (fun _ => 0) (fun _ => 0) (fun _ => .nilIface) (fun _ => eB) (fun _ => eB) (fun _ => .nilIface) (fun _ => .nilIface) (fun _ => false) w hx.prp hx.gN (fun a ha => by cases ha) (fun i hi => by omega) (frow0 ..) (fun i hi => by omega) (fun i hi => by omega) (by omega))) ?_
    rintro _ w1 ⟨b, rfl, hge, hlt, ⟨-, -, ⟨tb, v, k1, k2, k3⟩, x1⟩ | ⟨hno, _⟩⟩
    · have hbb1 := hbb.ext' x1
      have how1 := how.ext x1
      refine zst ?_
      refine WU.stp rfl rfl rfl (stp_buildSlice rfl rfl rfl rfl rfl) ?_
      rintro _ w2 ⟨b2, rfl, n2⟩
      have hbb2 := hbb1.ext' n2.ext
      have how2 := how1.ext n2.ext
      refine WU.stp rfl rfl rfl (stp_append1 rfl rfl how2 (Cells.has n2.has) rfl rfl (by omega) (by simp [Value.oneCell']) (by rw [List.length_map]; omega) (Nat.le_trans (Nat.le_trans hx.bi.N (Nat.le_of_lt hbb.lt)) (Nat.le_trans x1.size n2.ext.size))) ?_
      rintro v' w3 ⟨o3, a3, _⟩
      have hbb3 : Has w3 bb (.cells #[s.pk 0, s.pk 1, .slice na nl nc, s.er, vm] tBU) := App.keep a3 hbb2 (Own.ne how2 hbb2 (by decide))
      obtain ⟨sa, scp, hsh, _, _⟩ := o3.shape
      subst hsh
      refine zst ?_
      refine WU.stp0 rfl rfl (stp_store_cell rfl rfl rfl rfl) ?_
      rintro _ w4 u4
      refine zst ?_
      have x2 : Ext w w2 := x1.trans n2.ext
      have hnone := hx.bi.fresh hge
      have hgs := (Gs.gle_set (t := t) hnone).trans (Gs.gle_seal (s.set b t) w.heap.size w2.heap.size)
      have hkb : Kno K ((s.set b t).clo w.heap.size w2.heap.size) w2 b := ⟨t, Gs.set_same .., .inr ⟨hk, hn⟩, by rw [hx.dk]; exact hwf, .any t b hk hn (.inr ⟨hge, Nat.lt_of_lt_of_le hlt n2.ext.size⟩) ⟨_, k1.ext' n2.ext⟩ (Gs.set_same ..)⟩
      obtain ⟨p1, p2⟩ := (((hx.bi.ext x2).set (t := t) hnone (Nat.lt_of_lt_of_le hlt n2.ext.size)).clo w.heap.size (Nat.le_refl _)).push hkb hbb2 how2 (fun i u hu => by
        obtain ⟨cs, q1, q2, q3, q4⟩ := hnm i u hu
        exact ⟨cs, q1, q2, q3.ext' x2, q4⟩) a3 o3 u4
      have hge' : w.heap.size ≤ b := hge
      have kb : Has w4 b (.cells (ifc none 0 0 none 0 0 (pt tb)) tIF) := Has.sta0 p2 (by decide) (by decide) (k1.ext' n2.ext)
      refine fin1 (.inl rfl) rfl rfl ⟨(s.set b t).clo w.heap.size w2.heap.size, [b], ⟨hgs, (Sta.of_ext x2).trans p2, p1, by rw [List.length_singleton]; exact hwt, fun c u hc => ?_, fun d hd => hd.imp id fun h => ⟨h.1, Nat.lt_of_lt_of_le h.2 p2.size⟩⟩, .any t b hk hn hge ⟨_, kb⟩ (Gs.set_same ..), _, _, rfl⟩
      replace hc : (if c = b then some t else s.g c) = some u := hc
      by_cases hcb : c = b
      · subst hcb
        simp only [if_true, Option.some.injEq] at hc
        subst hc
        exact .inr ⟨hge, kb.lt, fun _ => ⟨List.mem_singleton_self _, .tse kb (Has.sta p2 (k2.ext' n2.ext)) ((k3.ext n2.ext).sta p2) (.inl hk)⟩⟩
      · simp only [hcb, if_false] at hc
        exact .inl hc
    · exact absurd ⟨rfl, rfl⟩ hno
  by_cases h20 : n = 20
  · subst h20
    obtain ⟨T, eb, her⟩ := hx.bi.er
    have hbb' := hbb
    rw [her] at hbb'
    refine W.enter (args := [pt bb, .int .i64 20]) Tryz.func92 rfl Tryz.ntmps92 rfl rfl ?_
    refine zst ?_
    exact fin1 (.inl rfl) rfl rfl ⟨s, [], (Made.rfl' hx.bi (Ext.rfl' w)).le (by omega), by rw [← her]; exact .error t hk hn, _, _, rfl⟩
  have h19 : n < 20 := by omega
  clear h1 h21 h20 hbb how hnm
  have bas : ∀ (k : Int), 1 ≤ k ∧ k ≤ 18 → k = bk n → ∀ v w', (∃ b i nm, v = pt b ∧ w.heap.size ≤ b ∧ Has w' b (.cells #[.int .i64 k, .int .i64 i, .string nm] 180) ∧ Ext w w') → Res K s w bb made t (.iface 123 v) w' := fun k _ hk v w' ⟨b, i, nm, h1, h2, h3, h4⟩ => by
    subst hk h1
    exact fin n rfl h19 b i nm w' h2 h3 h4
  clear fin
  obtain ⟨m, rfl⟩ := Int.eq_ofNat_of_zero_le h0
  clear hn h0
  match m, h19, bas with
  | 0, _, bas =>
    refine W.enter (args := [pt bb, .int .i64 0]) Tryz.func92 rfl Tryz.ntmps92 rfl rfl ?_
    refine zst ?_
    refine WU.stp rfl rfl rfl (stp_call rfl (c_Typ 1 w (by decide))) ?_
    rintro _ w' ⟨b, i, nm, rfl, g1, g2, g3⟩
    refine zst ?_
    exact fin1 (.inl rfl) rfl rfl (bas 1 (by decide) (by decide) _ w' ⟨b, i, nm, rfl, g1, g2, g3⟩)
  | 1, _, bas =>
    refine W.enter (args := [pt bb, .int .i64 1]) Tryz.func92 rfl Tryz.ntmps92 rfl rfl ?_
    refine zst ?_
    refine WU.stp rfl rfl rfl (stp_call rfl (c_Typ 2 w (by decide))) ?_
    rintro _ w' ⟨b, i, nm, rfl, g1, g2, g3⟩
    refine zst ?_
    exact fin1 (.inl rfl) rfl rfl (bas 2 (by decide) (by decide) _ w' ⟨b, i, nm, rfl, g1, g2, g3⟩)
  | 2, _, bas =>
    refine W.enter (args := [pt bb, .int .i64 2]) Tryz.func92 rfl Tryz.ntmps92 rfl rfl ?_
    refine zst ?_
    refine WU.stp rfl rfl rfl (stp_call rfl (c_Typ 3 w (by decide))) ?_
    rintro _ w' ⟨b, i, nm, rfl, g1, g2, g3⟩
    refine zst ?_
    exact fin1 (.inl rfl) rfl rfl (bas 3 (by decide) (by decide) _ w' ⟨b, i, nm, rfl, g1, g2, g3⟩)
  | 3, _, bas =>
    refine W.enter (args := [pt bb, .int .i64 3]) Tryz.func92 rfl Tryz.ntmps92 rfl rfl ?_
    refine zst ?_
    refine WU.stp rfl rfl rfl (stp_call rfl (c_Typ 4 w (by decide))) ?_
    rintro _ w' ⟨b, i, nm, rfl, g1, g2, g3⟩
    refine zst ?_
    exact fin1 (.inl rfl) rfl rfl (bas 4 (by decide) (by decide) _ w' ⟨b, i, nm, rfl, g1, g2, g3⟩)
  | 4, _, bas =>
    refine W.enter (args := [pt bb, .int .i64 4]) Tryz.func92 rfl Tryz.ntmps92 rfl rfl ?_
    refine zst ?_
    refine WU.stp rfl rfl rfl (stp_call rfl (c_Typ 5 w (by decide))) ?_
    rintro _ w' ⟨b, i, nm, rfl, g1, g2, g3⟩
    refine zst ?_
    exact fin1 (.inl rfl) rfl rfl (bas 5 (by decide) (by decide) _ w' ⟨b, i, nm, rfl, g1, g2, g3⟩)
  | 5, _, bas =>
    refine W.enter (args := [pt bb, .int .i64 5]) Tryz.func92 rfl Tryz.ntmps92 rfl rfl ?_
    refine zst ?_
    refine WU.stp rfl rfl rfl (stp_call rfl (c_Typ 6 w (by decide))) ?_
    rintro _ w' ⟨b, i, nm, rfl, g1, g2, g3⟩
    refine zst ?_
    exact fin1 (.inl rfl) rfl rfl (bas 6 (by decide) (by decide) _ w' ⟨b, i, nm, rfl, g1, g2, g3⟩)
  | 6, _, bas =>
    refine W.enter (args := [pt bb, .int .i64 6]) Tryz.func92 rfl Tryz.ntmps92 rfl rfl ?_
    refine zst ?_
    refine WU.stp rfl rfl rfl (stp_call rfl (c_Typ 7 w (by decide))) ?_
    rintro _ w' ⟨b, i, nm, rfl, g1, g2, g3⟩
    refine zst ?_
    exact fin1 (.inl rfl) rfl rfl (bas 7 (by decide) (by decide) _ w' ⟨b, i, nm, rfl, g1, g2, g3⟩)
  | 7, _, bas =>
    refine W.enter (args := [pt bb, .int .i64 7]) Tryz.func92 rfl Tryz.ntmps92 rfl rfl ?_
    refine zst ?_
    refine WU.stp rfl rfl rfl (stp_call rfl (c_Typ 8 w (by decide))) ?_
    rintro _ w' ⟨b, i, nm, rfl, g1, g2, g3⟩
    refine zst ?_
    exact fin1 (.inl rfl) rfl rfl (bas 8 (by decide) (by decide) _ w' ⟨b, i, nm, rfl, g1, g2, g3⟩)
  | 8, _, bas =>
    refine W.enter (args := [pt bb, .int .i64 8]) Tryz.func92 rfl Tryz.ntmps92 rfl rfl ?_
    refine zst ?_
    refine WU.stp rfl rfl rfl (stp_call rfl (c_Typ 9 w (by decide))) ?_
    rintro _ w' ⟨b, i, nm, rfl, g1, g2, g3⟩
    refine zst ?_
    exact fin1 (.inl rfl) rfl rfl (bas 9 (by decide) (by decide) _ w' ⟨b, i, nm, rfl, g1, g2, g3⟩)
  | 9, _, bas =>
    refine W.enter (args := [pt bb, .int .i64 9]) Tryz.func92 rfl Tryz.ntmps92 rfl rfl ?_
    refine zst ?_
    refine WU.stp rfl rfl rfl (stp_call rfl (c_Typ 10 w (by decide))) ?_
    rintro _ w' ⟨b, i, nm, rfl, g1, g2, g3⟩
    refine zst ?_
    exact fin1 (.inl rfl) rfl rfl (bas 10 (by decide) (by decide) _ w' ⟨b, i, nm, rfl, g1, g2, g3⟩)
  | 10, _, bas =>
    refine W.enter (args := [pt bb, .int .i64 10]) Tryz.func92 rfl Tryz.ntmps92 rfl rfl ?_
    refine zst ?_
    refine WU.stp rfl rfl rfl (stp_call rfl (c_Typ 11 w (by decide))) ?_
    rintro _ w' ⟨b, i, nm, rfl, g1, g2, g3⟩
    refine zst ?_
    exact fin1 (.inl rfl) rfl rfl (bas 11 (by decide) (by decide) _ w' ⟨b, i, nm, rfl, g1, g2, g3⟩)
  | 11, _, bas =>
    refine W.enter (args := [pt bb, .int .i64 11]) Tryz.func92 rfl Tryz.ntmps92 rfl rfl ?_
    refine zst ?_
    refine WU.stp rfl rfl rfl (stp_call rfl (c_Typ 12 w (by decide))) ?_
    rintro _ w' ⟨b, i, nm, rfl, g1, g2, g3⟩
    refine zst ?_
    exact fin1 (.inl rfl) rfl rfl (bas 12 (by decide) (by decide) _ w' ⟨b, i, nm, rfl, g1, g2, g3⟩)
  | 12, _, bas =>
    refine W.enter (args := [pt bb, .int .i64 12]) Tryz.func92 rfl Tryz.ntmps92 rfl rfl ?_
    refine zst ?_
    refine WU.stp rfl rfl rfl (stp_call rfl (c_Typ 13 w (by decide))) ?_
    rintro _ w' ⟨b, i, nm, rfl, g1, g2, g3⟩
    refine zst ?_
    exact fin1 (.inl rfl) rfl rfl (bas 13 (by decide) (by decide) _ w' ⟨b, i, nm, rfl, g1, g2, g3⟩)
  | 13, _, bas =>
    refine W.enter (args := [pt bb, .int .i64 13]) Tryz.func92 rfl Tryz.ntmps92 rfl rfl ?_
    refine zst ?_
    refine WU.stp rfl rfl rfl (stp_call rfl (c_Typ 14 w (by decide))) ?_
    rintro _ w' ⟨b, i, nm, rfl, g1, g2, g3⟩
    refine zst ?_
    exact fin1 (.inl rfl) rfl rfl (bas 14 (by decide) (by decide) _ w' ⟨b, i, nm, rfl, g1, g2, g3⟩)
  | 14, _, bas =>
    refine W.enter (args := [pt bb, .int .i64 14]) Tryz.func92 rfl Tryz.ntmps92 rfl rfl ?_
    refine zst ?_
    refine WU.stp rfl rfl rfl (stp_call rfl (c_Typ 15 w (by decide))) ?_
    rintro _ w' ⟨b, i, nm, rfl, g1, g2, g3⟩
    refine zst ?_
    exact fin1 (.inl rfl) rfl rfl (bas 15 (by decide) (by decide) _ w' ⟨b, i, nm, rfl, g1, g2, g3⟩)
  | 15, _, bas =>
    refine W.enter (args := [pt bb, .int .i64 15]) Tryz.func92 rfl Tryz.ntmps92 rfl rfl ?_
    refine zst ?_
    refine WU.stp rfl rfl rfl (stp_call rfl (c_Typ 16 w (by decide))) ?_
    rintro _ w' ⟨b, i, nm, rfl, g1, g2, g3⟩
    refine zst ?_
    exact fin1 (.inl rfl) rfl rfl (bas 16 (by decide) (by decide) _ w' ⟨b, i, nm, rfl, g1, g2, g3⟩)
  | 16, _, bas =>
    refine W.enter (args := [pt bb, .int .i64 16]) Tryz.func92 rfl Tryz.ntmps92 rfl rfl ?_
    refine zst ?_
    refine WU.stp rfl rfl rfl (stp_call rfl (c_Typ 17 w (by decide))) ?_
    rintro _ w' ⟨b, i, nm, rfl, g1, g2, g3⟩
    refine zst ?_
    exact fin1 (.inl rfl) rfl rfl (bas 17 (by decide) (by decide) _ w' ⟨b, i, nm, rfl, g1, g2, g3⟩)
  | 17, _, bas =>
    refine W.enter (args := [pt bb, .int .i64 17]) Tryz.func92 rfl Tryz.ntmps92 rfl rfl ?_
    refine zst ?_
    refine WU.stp rfl rfl rfl (stp_call rfl (c_Typ 18 w (by decide))) ?_
    rintro _ w' ⟨b, i, nm, rfl, g1, g2, g3⟩
    refine zst ?_
    exact fin1 (.inl rfl) rfl rfl (bas 18 (by decide) (by decide) _ w' ⟨b, i, nm, rfl, g1, g2, g3⟩)
  | 18, _, bas =>
    refine W.enter (args := [pt bb, .int .i64 18]) Tryz.func92 rfl Tryz.ntmps92 rfl rfl ?_
    refine zst ?_
    refine WU.stp rfl rfl rfl (stp_call rfl (c_Typ 8 w (by decide))) ?_
    rintro _ w' ⟨b, i, nm, rfl, g1, g2, g3⟩
    refine zst ?_
    exact fin1 (.inl rfl) rfl rfl (bas 8 (by decide) (by decide) _ w' ⟨b, i, nm, rfl, g1, g2, g3⟩)
  | 19, _, bas =>
    refine W.enter (args := [pt bb, .int .i64 19]) Tryz.func92 rfl Tryz.ntmps92 rfl rfl ?_
    refine zst ?_
    refine WU.stp rfl rfl rfl (stp_call rfl (c_Typ 5 w (by decide))) ?_
    rintro _ w' ⟨b, i, nm, rfl, g1, g2, g3⟩
    refine zst ?_
    exact fin1 (.inl rfl) rfl rfl (bas 5 (by decide) (by decide) _ w' ⟨b, i, nm, rfl, g1, g2, g3⟩)
  | m + 20, h, _ => exact absurd h (by omega)
end Go.Proofs.YtelmnkfdpnkpoaaGreatDoor
namespace Go.Proofs.YtelmnkfdpnkpoaaGreatDoor
open Go Go.Kd
set_option maxRecDepth 100000

theorem Cells.sameB {w w' : World} {b o : Nat} {cs : List Value} (hs : w'.heap[b]? = w.heap[b]?) (h : Cells w b o cs) : Cells w' b o cs := fun j v hv => by
  have := h j v hv
  unfold World.cell? at this ⊢
  rw [hs]; exact this
theorem Ask.open {D : List De} {i : Nat} {w : World} {K : Cfg} {p : Nat → Prop} {cs : List Value} {t : Ty} (h : Ask D i w K p cs t) : ∃ a cp, cs = tyc t a cp ∧ TysV w p a cp t.elems := h.v.tys
/-- an element of a type -/
theorem Ask.el {D : List De} {i : Nat} {w : World} {K : Cfg} {p : Nat → Prop} {cs : List Value} {t : Ty} (h : Ask D i w K p cs t) {a : Option Addr} {cp : Nat} (hv : TysV w p a cp t.elems) {j : Nat} {e : Ty} (he : t.elems[j]? = some e) :
    ∃ b o a3 c3, a = some ⟨b, o, none⟩ ∧ p b ∧ Cells w b (o + j * 8) (tyc e a3 c3) ∧ Ask D i w K p (tyc e a3 c3) e := by
  obtain ⟨b, o, a3, c3, h1, h2, h3, h4⟩ := hv.next he
  obtain ⟨v, hs⟩ := h.sh
  exact ⟨b, o, a3, c3, h1, h2, h3, .of_tys h4, h.p, ⟨_, hs.el j e he⟩, h.lg.el j e he⟩
theorem RT.ext {K : Cfg} {s : Gs} {w w' : World} {p : Nat → Prop} (x : Ext w w') {v : Value} {t : Ty} (h : RT K s w p v t) : RT K s w' p v t := h.sta (l := 0) (.of_ext x) (by omega)
theorem len_one {l : List Ty} (h : (l.length : Int) = 1) : ∃ e, l = [e] := by
  match l, h with
  | [e], _ => exact ⟨e, rfl⟩
theorem len_two {l : List Ty} (h : (l.length : Int) = 2) : ∃ e f, l = [e, f] := by
  match l, h with
  | [e, f], _ => exact ⟨e, f, rfl⟩
theorem wt_one {t e : Ty} (h : t.elems = [e]) : wt e < wt t := wt_el (t := t) (i := 0) (by rw [h]; rfl)
theorem wt_two {t e f : Ty} (h : t.elems = [e, f]) : wt e + wt f < wt t := by
  rw [wt_eq t, h]; simp only [wts]; omega

set_option maxHeartbeats 1000000 in
theorem typ_named (D : List De) (K : Cfg) (i : Nat) (t : Ty) (hk : t.kind = 1) : TypC D K i t := by
  intro s w bb made p cs hx ha hb
  obtain ⟨a, cp, rfl, hv⟩ := ha.open
  obtain ⟨v, hs⟩ := ha.sh
  have hsh := hs.shape
  have h0 := hsh.n0 (by rw [hk]; simp [limitN])
  have h1 : t.n < D.length := by have := hsh.n1 (by rw [hk]; simp [limitN]); rw [hk] at this; simpa [limitN] using this
  obtain ⟨na, nl, nc, vm, hbb, how, hnm⟩ := hx.bi.ex
  obtain ⟨n, hn⟩ := Int.eq_ofNat_of_zero_le h0
  have hlt : n < D.length := by omega
  obtain ⟨u, hu⟩ := hx.nms n D[n] (List.getElem?_eq_getElem hlt) (by
    cases hal : D[n].al
    · exact .inl rfl
    · right
      have : isAl D t = true := by
        unfold isAl decl
        rw [if_pos hk, hn, Int.toNat_natCast, List.getElem?_eq_getElem hlt]
        exact hal
      have := hsh.nm hk (.inr this)
      omega)
  obtain ⟨T, ub, rfl⟩ := hx.bi.nm n u hu
  obtain ⟨ncs, rfl, hnl, hnb, hnc⟩ := hnm n _ hu
  have hRT : RT K s w (fun b => w.heap.size ≤ b) (.iface T (pt ub)) t := .named t _ hk (by rw [hn, Int.toNat_natCast]; exact hu)
  unfold tyc
  rw [hk, hn]
  refine W.enter (args := [pt bb, .agg (tyl 1 n t.count t.vr (.slice a t.elems.length cp) t.name t.tag t.emb).toArray]) Tryz.func69 rfl Tryz.ntmps69 rfl rfl ?_
  refine zst ?_
  refine WU.stp rfl rfl rfl (by first | exact stp_box rfl rfl | exact stp_box1 rfl rfl) ?_
  rintro _ w1 ⟨b1, rfl, n1⟩
  refine zst ?_
  refine W.regD [(0, .q), (1, .q), (2, .q), (3, .q), (4, .q), (5, .q), (6, .q), (7, .q), (8, .q)] (by kernel_rfl) (by kernel_rfl) rfl ?_
  intro w2 x2 _
  have hbb2 := (hbb.ext' n1.ext).ext' x2
  have hc2 : w2.cell? ⟨K.nb, 0 + n * 1, none⟩ = some (.iface T (pt ub)) := by rw [Nat.mul_one, Nat.zero_add]; exact cell_of ((hnb.ext' n1.ext).ext' x2) hnc
  refine zsd ?_
  refine WD.yld rfl rfl rfl rfl (yld_load_c rfl hc2) ?_
  refine zsd ?_
  refine zst ?_
  have x := n1.ext.trans x2
  exact fin1 (.inl rfl) rfl rfl ⟨s, [], (Made.rfl' hx.bi x).le (by have := wt_pos t; omega), RT.ext x hRT, _, _, rfl⟩

set_option maxHeartbeats 1000000 in
theorem typ_pointer (D : List De) (K : Cfg) (i : Nat) (t : Ty) (hk : t.kind = 2) (ih : ∀ (j : Nat) e, t.elems[j]? = some e → TypC D K i e) : TypC D K i t := by
  intro s w bb made p cs hx ha hb
  obtain ⟨a, cp, rfl, hv⟩ := ha.open
  obtain ⟨v, hs⟩ := ha.sh
  have hlen := hs.shape.len (by rw [hk]; simp [elemsN])
  rw [hk] at hlen
  obtain ⟨e, hel⟩ := len_one hlen
  have he : t.elems[0]? = some e := by rw [hel]; rfl
  have hwe := wt_one hel
  obtain ⟨b, o, a3, c3, rfl, hpb, hc, hae⟩ := ha.el hv he
  have hl0 : 0 < t.elems.length := by rw [hel]; exact Nat.one_pos
  unfold tyc
  rw [hk]
  refine W.enter (args := [pt bb, .agg (tyl 2 t.n t.count t.vr (.slice (some ⟨b, o, none⟩) t.elems.length cp) t.name t.tag t.emb).toArray]) Tryz.func69 rfl Tryz.ntmps69 rfl rfl ?_
  refine zst ?_
  refine WU.stp rfl rfl rfl (by first | exact stp_box rfl rfl | exact stp_box1 rfl rfl) ?_
  rintro _ w1 ⟨b1, rfl, n1⟩
  have hc1 : Cells w1 b (o + 0 * 8) (tyc e a3 c3) := hc.ext n1.ext
  refine zst ?_
  refine WU.yld rfl rfl rfl (yld_load_cells rfl hc1) ?_
  refine zst ?_
  refine WU.stp rfl rfl rfl (stp_call rfl (ih 0 e he s w1 bb made p _ (hx.ext n1.ext) (hae.ext n1.ext) (by omega))) ?_
  rintro r w2 ⟨s', new, m2, rt2, T, eb, rfl⟩
  refine WU.stp rfl rfl rfl (stp_call rfl (c_NewPointer T (pt eb) w2)) ?_
  rintro _ w3 ⟨b3, rfl, n3⟩
  refine zst ?_
  have hge : w1.heap.size ≤ b3 := by have := n3.num; have := m2.sta.size; omega
  have hnone : s'.g b3 = none := m2.bi.fresh (by have := n3.num; omega)
  have hni : ¬ isIf t := by
    rintro (h | h)
    · omega
    · omega
  refine fin1 (.inl rfl) rfl rfl ⟨_, _, ((m2.ext n3.ext).set hge hnone n3.has.lt hni).before n1.ext |>.le (by omega), .ptr t e _ b3 hk hel ?_ (by have := n1.ext.size; omega) n3.has (Gs.set_same ..), _, _, rfl⟩
  exact ((RT.ext n3.ext rt2).le (Gs.gle_set hnone).le).mono fun c _ hc => Nat.le_trans n1.ext.size hc

set_option maxHeartbeats 1000000 in
theorem typ_slice (D : List De) (K : Cfg) (i : Nat) (t : Ty) (hk : t.kind = 3) (ih : ∀ (j : Nat) e, t.elems[j]? = some e → TypC D K i e) : TypC D K i t := by
  intro s w bb made p cs hx ha hb
  obtain ⟨a, cp, rfl, hv⟩ := ha.open
  obtain ⟨v, hs⟩ := ha.sh
  have hlen := hs.shape.len (by rw [hk]; simp [elemsN])
  rw [hk] at hlen
  obtain ⟨e, hel⟩ := len_one hlen
  have he : t.elems[0]? = some e := by rw [hel]; rfl
  have hwe := wt_one hel
  obtain ⟨b, o, a3, c3, rfl, hpb, hc, hae⟩ := ha.el hv he
  have hl0 : 0 < t.elems.length := by rw [hel]; exact Nat.one_pos
  unfold tyc
  rw [hk]
  refine W.enter (args := [pt bb, .agg (tyl 3 t.n t.count t.vr (.slice (some ⟨b, o, none⟩) t.elems.length cp) t.name t.tag t.emb).toArray]) Tryz.func69 rfl Tryz.ntmps69 rfl rfl ?_
  refine zst ?_
  refine WU.stp rfl rfl rfl (by first | exact stp_box rfl rfl | exact stp_box1 rfl rfl) ?_
  rintro _ w1 ⟨b1, rfl, n1⟩
  have hc1 : Cells w1 b (o + 0 * 8) (tyc e a3 c3) := hc.ext n1.ext
  refine zst ?_
  refine WU.yld rfl rfl rfl (yld_load_cells rfl hc1) ?_
  refine zst ?_
  refine WU.stp rfl rfl rfl (stp_call rfl (ih 0 e he s w1 bb made p _ (hx.ext n1.ext) (hae.ext n1.ext) (by omega))) ?_
  rintro r w2 ⟨s', new, m2, rt2, T, eb, rfl⟩
  refine WU.stp rfl rfl rfl (stp_call rfl (c_NewSlice T (pt eb) w2)) ?_
  rintro _ w3 ⟨b3, rfl, n3⟩
  refine zst ?_
  have hge : w1.heap.size ≤ b3 := by have := n3.num; have := m2.sta.size; omega
  have hnone : s'.g b3 = none := m2.bi.fresh (by have := n3.num; omega)
  have hni : ¬ isIf t := by
    rintro (h | h)
    · omega
    · omega
  refine fin1 (.inl rfl) rfl rfl ⟨_, _, ((m2.ext n3.ext).set hge hnone n3.has.lt hni).before n1.ext |>.le (by omega), .slice t e _ b3 hk hel ?_ (by have := n1.ext.size; omega) n3.has (Gs.set_same ..), _, _, rfl⟩
  exact ((RT.ext n3.ext rt2).le (Gs.gle_set hnone).le).mono fun c _ hc => Nat.le_trans n1.ext.size hc

set_option maxHeartbeats 1000000 in
theorem typ_array (D : List De) (K : Cfg) (i : Nat) (t : Ty) (hk : t.kind = 4) (ih : ∀ (j : Nat) e, t.elems[j]? = some e → TypC D K i e) : TypC D K i t := by
  intro s w bb made p cs hx ha hb
  obtain ⟨a, cp, rfl, hv⟩ := ha.open
  obtain ⟨v, hs⟩ := ha.sh
  have hlen := hs.shape.len (by rw [hk]; simp [elemsN])
  rw [hk] at hlen
  obtain ⟨e, hel⟩ := len_one hlen
  have he : t.elems[0]? = some e := by rw [hel]; rfl
  have hwe := wt_one hel
  obtain ⟨b, o, a3, c3, rfl, hpb, hc, hae⟩ := ha.el hv he
  have hl0 : 0 < t.elems.length := by rw [hel]; exact Nat.one_pos
  unfold tyc
  rw [hk]
  refine W.enter (args := [pt bb, .agg (tyl 4 t.n t.count t.vr (.slice (some ⟨b, o, none⟩) t.elems.length cp) t.name t.tag t.emb).toArray]) Tryz.func69 rfl Tryz.ntmps69 rfl rfl ?_
  refine zst ?_
  refine WU.stp rfl rfl rfl (by first | exact stp_box rfl rfl | exact stp_box1 rfl rfl) ?_
  rintro _ w1 ⟨b1, rfl, n1⟩
  have hc1 : Cells w1 b (o + 0 * 8) (tyc e a3 c3) := hc.ext n1.ext
  have ib1 := n1.has
  obtain ⟨F, hFd⟩ : ∃ F : World → Prop, ∀ W, F W ↔ (Has W b1 (.cells #[.int .i64 4, .int .i64 t.n, .int .i64 t.count, .bool t.vr, .slice (some ⟨b, o, none⟩) t.elems.length cp, .string t.name, .string t.tag, .bool t.emb] 26) ∧ Cells W b (o + 0 * 8) (tyc e a3 c3)) := ⟨fun W => (Has W b1 (.cells #[.int .i64 4, .int .i64 t.n, .int .i64 t.count, .bool t.vr, .slice (some ⟨b, o, none⟩) t.elems.length cp, .string t.name, .string t.tag, .bool t.emb] 26) ∧ Cells W b (o + 0 * 8) (tyc e a3 c3)), fun _ => Iff.rfl⟩
  refine zst ?_
  refine W.regR (R := fun a b => F a → F b) (fun _ h => h) (fun _ _ _ h k x => k (h x)) [(0, .q), (1, .q), (2, .q), (3, .q), (4, .q), (6, .q), (7, .q), (5, .l), (8, .l), (9, .q), (10, .q)] (by kernel_rfl) (by kernel_rfl) rfl ?_
  intro w2 x2 _
  have hF : F w2 := (hFd _).2 ⟨ib1.ext' x2, hc1.ext x2⟩
  have x12 := n1.ext.trans x2
  (repeat (first
      | refine WR.nilk ?_
      | refine WR.nil ?_
      | refine WR.yld (fun _ h => h) rfl rfl rfl rfl (fun w' hx => by obtain ⟨i1, i2⟩ := (hFd _).1 (hx hF); first | exact zyl | (exact yld_load_cells rfl i2) | exact yld_indexAddr_arr rfl rfl (by omega)) ?_
      | refine WR.skip rfl rfl rfl rfl ?_))
  refine WR.stp rfl rfl rfl rfl (stp_call rfl (ih 0 e he s w2 bb made p _ (hx.ext x12) (hae.ext x12) (by omega))) ?_
  rintro r w3 ⟨s', new, m3, rt3, T, eb, rfl⟩
  have hF : F w3 := (hFd _).2 ⟨Has.sta m3.sta (ib1.ext' x2), Cells.sameB (m3.sta.old b (ha.p b hpb).1 (Nat.lt_of_lt_of_le (ha.p b hpb).2 x12.size)) (hc1.ext x2)⟩
  refine ⟨fun _ => hF, ?_⟩
  (repeat (first
      | refine WR.nilk ?_
      | refine WR.nil ?_
      | refine WR.yld (fun _ h => h) rfl rfl rfl rfl (fun w' hx => by obtain ⟨i1, i2⟩ := (hFd _).1 (hx hF); first | exact zyl | (exact yld_load_cells rfl i2) | exact yld_indexAddr_arr rfl rfl (by omega)) ?_
      | refine WR.skip rfl rfl rfl rfl ?_))
  refine WR.stp rfl rfl rfl rfl (stp_call rfl (c_NewArray T (pt eb) t.n w3)) ?_
  rintro _ w4 ⟨b4, rfl, n4⟩
  have hF : F w4 := (hFd _).2 ⟨((hFd _).1 hF).1.ext' n4.ext, ((hFd _).1 hF).2.ext n4.ext⟩
  refine ⟨fun _ => hF, ?_⟩
  (repeat (first
      | refine WR.nilk ?_
      | refine WR.nil ?_
      | refine WR.yld (fun _ h => h) rfl rfl rfl rfl (fun w' hx => by obtain ⟨i1, i2⟩ := (hFd _).1 (hx hF); first | exact zyl | (exact yld_load_cells rfl i2) | exact yld_indexAddr_arr rfl rfl (by omega)) ?_
      | refine WR.skip rfl rfl rfl rfl ?_))
  refine zst ?_
  have hge : w2.heap.size ≤ b4 := by have := n4.num; have := m3.sta.size; omega
  have hnone : s'.g b4 = none := m3.bi.fresh (by have := n4.num; omega)
  have hni : ¬ isIf t := by
    rintro (h | h)
    · omega
    · omega
  refine fin1 (.inl rfl) rfl rfl ⟨_, _, ((m3.ext n4.ext).set hge hnone n4.has.lt hni).before x12 |>.le (by omega), .array t e _ b4 hk hel ?_ (by have := x12.size; omega) n4.has (Gs.set_same ..), _, _, rfl⟩
  exact ((RT.ext n4.ext rt3).le (Gs.gle_set hnone).le).mono fun c _ hc => Nat.le_trans x12.size hc

set_option maxHeartbeats 1000000 in
theorem typ_chan (D : List De) (K : Cfg) (i : Nat) (t : Ty) (hk : t.kind = 6) (ih : ∀ (j : Nat) e, t.elems[j]? = some e → TypC D K i e) : TypC D K i t := by
  intro s w bb made p cs hx ha hb
  obtain ⟨a, cp, rfl, hv⟩ := ha.open
  obtain ⟨v, hs⟩ := ha.sh
  have hlen := hs.shape.len (by rw [hk]; simp [elemsN])
  rw [hk] at hlen
  obtain ⟨e, hel⟩ := len_one hlen
  have he : t.elems[0]? = some e := by rw [hel]; rfl
  have hwe := wt_one hel
  obtain ⟨b, o, a3, c3, rfl, hpb, hc, hae⟩ := ha.el hv he
  have hl0 : 0 < t.elems.length := by rw [hel]; exact Nat.one_pos
  have hn0 := hs.shape.n0 (by rw [hk]; simp [limitN])
  have hn1 := hs.shape.n1 (by rw [hk]; simp [limitN])
  rw [hk] at hn1
  unfold tyc
  rw [hk]
  refine W.enter (args := [pt bb, .agg (tyl 6 t.n t.count t.vr (.slice (some ⟨b, o, none⟩) t.elems.length cp) t.name t.tag t.emb).toArray]) Tryz.func69 rfl Tryz.ntmps69 rfl rfl ?_
  refine zst ?_
  refine WU.stp rfl rfl rfl (by first | exact stp_box rfl rfl | exact stp_box1 rfl rfl) ?_
  rintro _ w1 ⟨b1, rfl, n1⟩
  have hc1 : Cells w1 b (o + 0 * 8) (tyc e a3 c3) := hc.ext n1.ext
  have ib1 := n1.has
  obtain ⟨F, hFd⟩ : ∃ F : World → Prop, ∀ W, F W ↔ (Has W b1 (.cells #[.int .i64 6, .int .i64 t.n, .int .i64 t.count, .bool t.vr, .slice (some ⟨b, o, none⟩) t.elems.length cp, .string t.name, .string t.tag, .bool t.emb] 26) ∧ Cells W b (o + 0 * 8) (tyc e a3 c3)) := ⟨fun W => (Has W b1 (.cells #[.int .i64 6, .int .i64 t.n, .int .i64 t.count, .bool t.vr, .slice (some ⟨b, o, none⟩) t.elems.length cp, .string t.name, .string t.tag, .bool t.emb] 26) ∧ Cells W b (o + 0 * 8) (tyc e a3 c3)), fun _ => Iff.rfl⟩
  refine zst ?_
  refine W.regR (R := fun a b => F a → F b) (fun _ h => h) (fun _ _ _ h k x => k (h x)) [(0, .q), (1, .q), (3, .q), (4, .q), (5, .q), (6, .q), (7, .q), (2, .l), (8, .l), (9, .l), (10, .q), (11, .q)] (by kernel_rfl) (by kernel_rfl) rfl ?_
  intro w2 x2 _
  have hF : F w2 := (hFd _).2 ⟨ib1.ext' x2, hc1.ext x2⟩
  have x12 := n1.ext.trans x2
  (repeat (first
      | refine WR.nilk ?_
      | refine WR.nil ?_
      | refine WR.yld (fun _ h => h) rfl rfl rfl rfl (fun w' hx => by obtain ⟨i1, i2⟩ := (hFd _).1 (hx hF); first | exact zyl | (exact yld_load_cells rfl i2) | exact yld_indexAddr_arr rfl rfl (by omega)) ?_
      | refine WR.skip rfl rfl rfl rfl ?_))
  refine WR.stp rfl rfl rfl rfl (stp_call rfl (c_direction t.n w2 ⟨hn0, by simpa [limitN] using hn1⟩)) ?_
  rintro _ _ ⟨rfl, rfl⟩
  refine ⟨fun h => h, ?_⟩
  (repeat (first
      | refine WR.nilk ?_
      | refine WR.nil ?_
      | refine WR.yld (fun _ h => h) rfl rfl rfl rfl (fun w' hx => by obtain ⟨i1, i2⟩ := (hFd _).1 (hx hF); first | exact zyl | (exact yld_load_cells rfl i2) | exact yld_indexAddr_arr rfl rfl (by omega)) ?_
      | refine WR.skip rfl rfl rfl rfl ?_))
  refine WR.stp rfl rfl rfl rfl (stp_call rfl (ih 0 e he s w2 bb made p _ (hx.ext x12) (hae.ext x12) (by omega))) ?_
  rintro r w3 ⟨s', new, m3, rt3, T, eb, rfl⟩
  have hF : F w3 := (hFd _).2 ⟨Has.sta m3.sta (ib1.ext' x2), Cells.sameB (m3.sta.old b (ha.p b hpb).1 (Nat.lt_of_lt_of_le (ha.p b hpb).2 x12.size)) (hc1.ext x2)⟩
  refine ⟨fun _ => hF, ?_⟩
  (repeat (first
      | refine WR.nilk ?_
      | refine WR.nil ?_
      | refine WR.yld (fun _ h => h) rfl rfl rfl rfl (fun w' hx => by obtain ⟨i1, i2⟩ := (hFd _).1 (hx hF); first | exact zyl | (exact yld_load_cells rfl i2) | exact yld_indexAddr_arr rfl rfl (by omega)) ?_
      | refine WR.skip rfl rfl rfl rfl ?_))
  refine WR.stp rfl rfl rfl rfl (stp_call rfl (c_NewChan t.n T (pt eb) w3)) ?_
  rintro _ w4 ⟨b4, rfl, n4⟩
  have hF : F w4 := (hFd _).2 ⟨((hFd _).1 hF).1.ext' n4.ext, ((hFd _).1 hF).2.ext n4.ext⟩
  refine ⟨fun _ => hF, ?_⟩
  (repeat (first
      | refine WR.nilk ?_
      | refine WR.nil ?_
      | refine WR.yld (fun _ h => h) rfl rfl rfl rfl (fun w' hx => by obtain ⟨i1, i2⟩ := (hFd _).1 (hx hF); first | exact zyl | (exact yld_load_cells rfl i2) | exact yld_indexAddr_arr rfl rfl (by omega)) ?_
      | refine WR.skip rfl rfl rfl rfl ?_))
  refine zst ?_
  have hge : w2.heap.size ≤ b4 := by have := n4.num; have := m3.sta.size; omega
  have hnone : s'.g b4 = none := m3.bi.fresh (by have := n4.num; omega)
  have hni : ¬ isIf t := by
    rintro (h | h)
    · omega
    · omega
  refine fin1 (.inl rfl) rfl rfl ⟨_, _, ((m3.ext n4.ext).set hge hnone n4.has.lt hni).before x12 |>.le (by omega), .chan t e _ b4 hk hel ?_ (by have := x12.size; omega) n4.has (Gs.set_same ..), _, _, rfl⟩
  exact ((RT.ext n4.ext rt3).le (Gs.gle_set hnone).le).mono fun c _ hc => Nat.le_trans x12.size hc

set_option maxHeartbeats 2000000 in
theorem typ_map (D : List De) (K : Cfg) (i : Nat) (t : Ty) (hk : t.kind = 5) (ih : ∀ (j : Nat) e, t.elems[j]? = some e → TypC D K i e) : TypC D K i t := by
  intro s w bb made p cs hx ha hb
  obtain ⟨a, cp, rfl, hv⟩ := ha.open
  obtain ⟨v, hs⟩ := ha.sh
  have hlen := hs.shape.len (by rw [hk]; simp [elemsN])
  rw [hk] at hlen
  obtain ⟨e, f, hel⟩ := len_two hlen
  have he : t.elems[0]? = some e := by rw [hel]; rfl
  have hf : t.elems[1]? = some f := by rw [hel]; rfl
  have hwe := wt_two hel
  obtain ⟨b, o, a3, c3, rfl, hpb, hc, hae⟩ := ha.el hv he
  obtain ⟨b', o', a4, c4, hbo, _, hc', haf⟩ := ha.el hv hf
  cases hbo
  have hl0 : 1 < t.elems.length := by rw [hel]; simp
  unfold tyc
  rw [hk]
  refine W.enter (args := [pt bb, .agg (tyl 5 t.n t.count t.vr (.slice (some ⟨b, o, none⟩) t.elems.length cp) t.name t.tag t.emb).toArray]) Tryz.func69 rfl Tryz.ntmps69 rfl rfl ?_
  refine zst ?_
  refine WU.stp rfl rfl rfl (by first | exact stp_box rfl rfl | exact stp_box1 rfl rfl) ?_
  rintro _ w1 ⟨b1, rfl, n1⟩
  have hc1 : Cells w1 b (o + 0 * 8) (tyc e a3 c3) := hc.ext n1.ext
  have hc1' : Cells w1 b (o + 1 * 8) (tyc f a4 c4) := hc'.ext n1.ext
  have ib1 := n1.has
  obtain ⟨F, hFd⟩ : ∃ F : World → Prop, ∀ W, F W ↔ (Has W b1 (.cells #[.int .i64 5, .int .i64 t.n, .int .i64 t.count, .bool t.vr, .slice (some ⟨b, o, none⟩) t.elems.length cp, .string t.name, .string t.tag, .bool t.emb] 26) ∧ Cells W b (o + 0 * 8) (tyc e a3 c3) ∧ Cells W b (o + 1 * 8) (tyc f a4 c4)) := ⟨fun W => (Has W b1 (.cells #[.int .i64 5, .int .i64 t.n, .int .i64 t.count, .bool t.vr, .slice (some ⟨b, o, none⟩) t.elems.length cp, .string t.name, .string t.tag, .bool t.emb] 26) ∧ Cells W b (o + 0 * 8) (tyc e a3 c3) ∧ Cells W b (o + 1 * 8) (tyc f a4 c4)), fun _ => Iff.rfl⟩
  refine zst ?_
  refine W.regR (R := fun a b => F a → F b) (fun _ h => h) (fun _ _ _ h k x => k (h x)) [(0, .q), (1, .q), (2, .q), (3, .q), (4, .q), (6, .q), (7, .q), (8, .q), (9, .q), (10, .q), (5, .l), (11, .l), (12, .l), (13, .q), (14, .q)] (by kernel_rfl) (by kernel_rfl) rfl ?_
  intro w2 x2 _
  have hF : F w2 := (hFd _).2 ⟨ib1.ext' x2, hc1.ext x2, hc1'.ext x2⟩
  have x12 := n1.ext.trans x2
  (repeat (first
      | refine WR.nilk ?_
      | refine WR.nil ?_
      | refine WR.yld (fun _ h => h) rfl rfl rfl rfl (fun w' hx => by obtain ⟨i1, i2, i3⟩ := (hFd _).1 (hx hF); first | exact zyl | (exact yld_load_cells rfl i2) | exact yld_indexAddr_arr rfl rfl (by omega)) ?_
      | refine WR.skip rfl rfl rfl rfl ?_))
  refine WR.yld (fun _ h => h) rfl rfl rfl rfl (fun w' hx => by obtain ⟨i1, i2, i3⟩ := (hFd _).1 (hx hF); exact yld_load_cells rfl i3) ?_
  (repeat (first
      | refine WR.nilk ?_
      | refine WR.nil ?_
      | refine WR.yld (fun _ h => h) rfl rfl rfl rfl (fun w' hx => by obtain ⟨i1, i2, i3⟩ := (hFd _).1 (hx hF); first | exact zyl | (exact yld_load_cells rfl i2) | exact yld_indexAddr_arr rfl rfl (by omega)) ?_
      | refine WR.skip rfl rfl rfl rfl ?_))
  refine WR.stp rfl rfl rfl rfl (stp_call rfl (ih 0 e he s w2 bb made p _ (hx.ext x12) (hae.ext x12) (by omega))) ?_
  rintro r w3 ⟨s', new, m3, rt3, T, eb, rfl⟩
  have hold := m3.sta.old b (ha.p b hpb).1 (Nat.lt_of_lt_of_le (ha.p b hpb).2 x12.size)
  have hF : F w3 := (hFd _).2 ⟨Has.sta m3.sta (ib1.ext' x2), Cells.sameB hold (hc1.ext x2), Cells.sameB hold (hc1'.ext x2)⟩
  refine ⟨fun _ => hF, ?_⟩
  (repeat (first
      | refine WR.nilk ?_
      | refine WR.nil ?_
      | refine WR.yld (fun _ h => h) rfl rfl rfl rfl (fun w' hx => by obtain ⟨i1, i2, i3⟩ := (hFd _).1 (hx hF); first | exact zyl | (exact yld_load_cells rfl i3) | exact yld_indexAddr_arr rfl rfl (by omega)) ?_
      | refine WR.skip rfl rfl rfl rfl ?_))
  have hln := m3.len
  refine WR.stp rfl rfl rfl rfl (stp_call rfl (ih 1 f hf s' w3 bb (made ++ new) p _ ((hx.ext x12).made m3) ((haf.ext x12).sta m3.sta) (by rw [List.length_append]; omega))) ?_
  rintro r w4 ⟨s'', new', m4, rt4, T', eb', rfl⟩
  have hold' := m4.sta.old b (ha.p b hpb).1 (Nat.lt_of_lt_of_le (Nat.lt_of_lt_of_le (ha.p b hpb).2 x12.size) m3.sta.size)
  have hF : F w4 := (hFd _).2 ⟨Has.sta m4.sta ((hFd _).1 hF).1, Cells.sameB hold' ((hFd _).1 hF).2.1, Cells.sameB hold' ((hFd _).1 hF).2.2⟩
  refine ⟨fun _ => hF, ?_⟩
  (repeat (first
      | refine WR.nilk ?_
      | refine WR.nil ?_
      | refine WR.yld (fun _ h => h) rfl rfl rfl rfl (fun w' hx => by obtain ⟨i1, i2, i3⟩ := (hFd _).1 (hx hF); first | exact zyl | (exact yld_load_cells rfl i3) | exact yld_indexAddr_arr rfl rfl (by omega)) ?_
      | refine WR.skip rfl rfl rfl rfl ?_))
  refine WR.stp rfl rfl rfl rfl (stp_call rfl (c_NewMap T (pt eb) T' (pt eb') w4)) ?_
  rintro _ w5 ⟨b5, rfl, n5⟩
  have hF : F w5 := (hFd _).2 ⟨((hFd _).1 hF).1.ext' n5.ext, ((hFd _).1 hF).2.1.ext n5.ext, ((hFd _).1 hF).2.2.ext n5.ext⟩
  refine ⟨fun _ => hF, ?_⟩
  (repeat (first
      | refine WR.nilk ?_
      | refine WR.nil ?_
      | refine WR.yld (fun _ h => h) rfl rfl rfl rfl (fun w' hx => by obtain ⟨i1, i2, i3⟩ := (hFd _).1 (hx hF); first | exact zyl | (exact yld_load_cells rfl i3) | exact yld_indexAddr_arr rfl rfl (by omega)) ?_
      | refine WR.skip rfl rfl rfl rfl ?_))
  refine zst ?_
  have m34 := m3.trans m4
  have hge : w2.heap.size ≤ b5 := by have := n5.num; have := m34.sta.size; omega
  have hnone : s''.g b5 = none := m4.bi.fresh (by have := n5.num; omega)
  have hni : ¬ isIf t := by
    rintro (h | h)
    · omega
    · omega
  refine fin1 (.inl rfl) rfl rfl ⟨_, _, ((m34.ext n5.ext).set hge hnone n5.has.lt hni).before x12 |>.le (by omega), .map t e f _ _ b5 hk hel ?_ ?_ (by have := x12.size; omega) n5.has (Gs.set_same ..), _, _, rfl⟩
  · exact (((RT.ext n5.ext (rt3.sta m4.sta (by omega))).le m4.gle.le).le (Gs.gle_set hnone).le).mono fun c _ hc => Nat.le_trans x12.size hc
  · exact ((RT.ext n5.ext rt4).le (Gs.gle_set hnone).le).mono fun c _ hc => by have := x12.size; have := m3.sta.size; omega
end Go.Proofs.YtelmnkfdpnkpoaaGreatDoor
namespace Go.Proofs.YtelmnkfdpnkpoaaGreatDoor
open Go Go.Kd
set_option maxRecDepth 100000

/-! ### Rows of one cell that the call owns -/
theorem flat1 {α : Type} (f : Nat → α) : ∀ l : List Nat, (l.map fun i => [f i]).flatten = l.map f
  | [] => rfl
  | a :: l => by simp [flat1 f l]
theorem Own.row1 {w : World} {base el n : Nat} {v : Value} {f : Nat → Value} (h : Own w base el 1 v ((List.range n).map fun i => [f i])) : ∃ a cp, v = .slice a n cp ∧ ∀ i, i < n → ∃ g cs, a = some ⟨g, 0, none⟩ ∧ base ≤ g ∧ v.ownBlock = some g ∧ Has w g (.cells cs el) ∧ cs[i]? = some (f i) := by
  have h2 := h.row.2
  rw [List.length_map, List.length_range, flat1] at h2
  rcases h2 with ⟨h1, h2⟩ | ⟨g, cap, cur, h1, h2, h3, h4, h5, h6, h7⟩
  · subst h2
    exact ⟨none, 0, h1, fun i hi => by omega⟩
  · refine ⟨_, cap, h1, fun i hi => ⟨g, cur, rfl, h2, by rw [h1]; rfl, ⟨h3⟩, ?_⟩⟩
    have h8 : (cur.toList.take (n * 1))[i]? = some (f i) := by rw [h7, List.getElem?_map, List.getElem?_range hi]; rfl
    rw [Nat.mul_one, List.getElem?_take_of_lt hi] at h8
    simpa using h8
theorem Own.sta {K : Cfg} {l : Nat} {w w' : World} {base el sz : Nat} {v : Value} {ls : List (List Value)} [hi : Imm el] (x : Sta K l w w') (h : Own w base el sz v ls) : Own w' base el sz v ls := h.kept fun k hk => by
  rcases h.row.2 with ⟨h1, _⟩ | ⟨g, cap, cur, h1, _, h3, _⟩
  · rw [h1] at hk; cases hk
  · rw [h1] at hk
    cases hk
    exact (Has.sta x (⟨h3⟩ : Has w g (.cells cur el (0, 0)))).at_.trans h3.symm
theorem Own.staT {K : Cfg} {w w' : World} {base sz : Nat} {v : Value} {ls : List (List Value)} (x : Sta K 0 w w') (h : Own w base tTY sz v ls) : Own w' base tTY sz v ls := h.kept fun k hk => by
  rcases h.row.2 with ⟨h1, _⟩ | ⟨g, cap, cur, h1, _, h3, _⟩
  · rw [h1] at hk; cases hk
  · rw [h1] at hk
    cases hk
    exact (Has.sta0 x (by decide) (by decide) (⟨h3⟩ : Has w g (.cells cur tTY (0, 0)))).at_.trans h3.symm
theorem range_snoc {α : Type} (f : Nat → α) (n : Nat) : (List.range n).map f ++ [f n] = (List.range (n + 1)).map f := by
  rw [List.range_succ, List.map_append]; rfl
/-- f, but for place n -/
def put {α : Type} (f : Nat → α) (n : Nat) (x : α) : Nat → α := fun i => if i = n then x else f i
theorem put_same {α : Type} (f : Nat → α) (n : Nat) (x : α) : put f n x n = x := by simp [put]
theorem put_lt {α : Type} (f : Nat → α) {n i : Nat} (x : α) (h : i < n) : put f n x i = f i := by simp [put, Nat.ne_of_lt h]
theorem map_put {α β : Type} (f : Nat → α) (g : α → β) (n : Nat) (x : α) : (List.range n).map (fun i => g (put f n x i)) = (List.range n).map fun i => g (f i) := by
  apply List.map_congr_left
  intro i hi
  rw [put_lt f x (List.mem_range.1 hi)]
/-- what is read lies in no row that grows -/
theorem RT.app {K : Cfg} {s : Gs} {w w' : World} {v v' u : Value} {t : Ty} {P : Nat → Prop} (a : App w w' v) (hg : ∀ g, v'.ownBlock = some g → v.ownBlock = some g ∨ g = w.heap.size) (h : RT K s w (fun b => P b ∧ v.ownBlock ≠ some b) u t) : RT K s w' (fun b => P b ∧ v'.ownBlock ≠ some b) u t := by
  have h1 : RT K s w (fun b => (P b ∧ v.ownBlock ≠ some b) ∧ b < w.heap.size) u t := h.mono fun b hb hp => ⟨hp, hb⟩
  have h2 : RT K s w' (fun b => (P b ∧ v.ownBlock ≠ some b) ∧ b < w.heap.size) u t := h1.same fun b hb => a.block b hb.2 fun e => hb.1.2 e.symm
  exact h2.mono fun b _ hb => ⟨hb.1.1, fun e => by
    rcases hg b e with h | h
    · exact hb.1.2 h
    · have := hb.2; omega⟩
theorem RT.kind3 {K : Cfg} {s : Gs} {w : World} {p : Nat → Prop} {v : Value} {t : Ty} (h : RT K s w p v t) (hk : t.kind = 3) : ∃ b, v = .iface tSL (pt b) := by
  cases h <;> first
    | omega
    | exact ⟨_, rfl⟩
theorem RT.kind8 {K : Cfg} {s : Gs} {w : World} {p : Nat → Prop} {v : Value} {t : Ty} (h : RT K s w p v t) (hk : t.kind = 8) : ∃ b, v = .iface tSP (pt b) := by
  cases h <;> first
    | omega
    | exact ⟨_, rfl⟩
abbrev tVR : Nat := 185
/-- types of blocks that the builder's facts speak of -/
def plainEl (el : Nat) : Bool := el != tBU && (el != tPK && (el != tPI && (el != tIF && (el != tTS && (el != tTP && el != tTM)))))
theorem Has.app {w w' : World} {base el sz : Nat} {v : Value} {ls : List (List Value)} (a : App w w' v) (ho : Own w base el sz v ls) {b t : Nat} {cs : Array Value} {fz : Nat × Nat} (h : Has w b (.cells cs t fz)) (ht : t ≠ el) : Has w' b (.cells cs t fz) := App.keep a h (Own.ne ho h ht)
theorem AllT.app {w w' : World} {base el sz : Nat} {v : Value} {ls : List (List Value)} (a : App w w' v) (ho : Own w base el sz v ls) (hel : plainEl el = true) {u : Value} (h : AllT w u) : AllT w' u := by
  simp only [plainEl, Bool.and_eq_true, bne_iff_ne] at hel
  obtain ⟨e1, e2, e3, e4, e5, e6, e7⟩ := hel
  obtain ⟨a', c, tb, h1, h2, h3⟩ := h
  exact ⟨a', c, tb, h1, fun i hi => by
    obtain ⟨b, cs, k1, k2, k3⟩ := h2 i hi
    exact ⟨b, cs, k1, Has.app a ho k2 (Ne.symm e6), k3⟩, Has.app a ho h3 (Ne.symm e7)⟩
theorem Fresh.app {w w' : World} {base el sz : Nat} {v : Value} {ls : List (List Value)} (a : App w w' v) (ho : Own w base el sz v ls) (hel : plainEl el = true) {b : Nat} {t : Ty} (h : Fresh w b t) : Fresh w' b t := by
  have hel' := hel
  simp only [plainEl, Bool.and_eq_true, bne_iff_ne] at hel
  obtain ⟨e1, e2, e3, e4, e5, e6, e7⟩ := hel
  have key : ∀ ts, IfT w b ts → IfT w' b ts := fun ts ⟨ma, mn, mc, ea, en, ec, h⟩ => ⟨ma, mn, mc, ea, en, ec, Has.app a ho h (Ne.symm e4)⟩
  rcases h with h | ⟨⟨tb, u, h1, h2, h3⟩, h4⟩
  · exact .inl (key _ h)
  · exact .inr ⟨⟨tb, u, key _ h1, Has.app a ho h2 (Ne.symm e5), h3.app a ho hel'⟩, h4⟩
theorem Made.app {K : Cfg} {s1 s2 : Gs} {w1 w2 w3 : World} {bb : Nat} {made n1 : List Nat} {m : Nat} {base el sz : Nat} {v : Value} {ls : List (List Value)} (h : Made K s1 w1 bb made m s2 n1 w2) (a : App w2 w3 v) (ho : Own w2 base el sz v ls) (hb : w1.heap.size ≤ base)
    (hel : plainEl el = true) (hnb : K.nb < w1.heap.size) (hsl : ∀ d, s2.sl d → v.ownBlock ≠ some d) : Made K s1 w1 bb made m s2 n1 w3 := by
  have hel' := hel
  simp only [plainEl, Bool.and_eq_true, bne_iff_ne] at hel
  obtain ⟨e1, e2, e3, e4, e5, e6, e7⟩ := hel
  refine ⟨h.gle, h.sta.app_new a ho hb, h.bi.keep a.size (fun d cs t hd ht => ?_) fun _ _ hr => hr.same fun d hd => a.block d (h.bi.sll d hd) fun e => hsl d hd e.symm, h.len, fun b u hu => ?_, fun d hd => (h.sn d hd).imp id fun h => ⟨h.1, Nat.lt_of_lt_of_le h.2 a.size⟩⟩
  · have hd' : Has w2 d (.cells cs t (0, 0)) := ⟨hd⟩
    rcases ht with rfl | ⟨rfl, rfl⟩ | rfl | rfl
    · exact (Has.app a ho hd' (Ne.symm e1)).at_.trans hd.symm
    · refine a.block _ hd'.lt fun e => ?_
      have := (ho.lt _ e.symm).1
      omega
    · exact (Has.app a ho hd' (Ne.symm e2)).at_.trans hd.symm
    · exact (Has.app a ho hd' (Ne.symm e3)).at_.trans hd.symm
  · rcases h.gn b u hu with k | ⟨k1, k2, k3⟩
    · exact .inl k
    · exact .inr ⟨k1, Nat.lt_of_lt_of_le k2 a.size, fun hi => ⟨(k3 hi).1, (k3 hi).2.app a ho hel'⟩⟩

/-- what two rows that grow are: the objects' type and cells, the rows' element types, what the second row holds, how many elements have an object -/
structure RowK where
  ty : Nat
  cf : Ty → Value → Array Value
  el1 : Nat
  el2 : Nat
  g2 : (Nat → Nat) → (Nat → Value) → Nat → Value
  cN : Nat
  h1 : plainEl el1 = true
  h2 : plainEl el2 = true
  t1 : ty ≠ el1
  t2 : ty ≠ el2
  tb : ty ≠ tBU ∧ ty ≠ tPI
/-- how far the elements l are made: k of them, of which n1 and n2 lie in the rows; w: the world at the beginning -/
structure GI (R : RowK) (K : Cfg) (s : Gs) (w : World) (bb : Nat) (made : List Nat) (l : List Ty) (k n1 n2 : Nat) (vp vr : Value) (s' : Gs) (new : List Nat) (vb : Nat → Nat) (vv : Nat → Value) (wk : World) : Prop where
  m : Made K s w bb made (wts (l.take k)) s' new wk
  op : Own wk w.heap.size R.el1 1 vp ((List.range n1).map fun i => [pt (vb i)])
  or : Own wk w.heap.size R.el2 1 vr ((List.range n2).map fun i => [R.g2 vb vv i])
  ne : ∀ g, vp.ownBlock = some g → vr.ownBlock ≠ some g
  rt : ∀ (i : Nat) e, i < k → l[i]? = some e → RT K s' wk (fun b => w.heap.size ≤ b ∧ vp.ownBlock ≠ some b ∧ vr.ownBlock ≠ some b) (vv i) e
  var : ∀ (i : Nat) e, i < k → i < R.cN → l[i]? = some e → w.heap.size ≤ vb i ∧ Has wk (vb i) (.cells (R.cf e (vv i)) R.ty)
  lt1 : n1 ≤ k
  so : ∀ d, s'.sl d → vp.ownBlock ≠ some d ∧ vr.ownBlock ≠ some d
theorem take_wts {l : List Ty} {k : Nat} {e : Ty} (h : l[k]? = some e) : wts (l.take k) + wt e = wts (l.take (k + 1)) := by
  have hlt := (List.getElem?_eq_some_iff.1 h).1
  have h2 : l.take (k + 1) = l.take k ++ [e] := by rw [List.take_add_one, h]; rfl
  have h3 : ∀ a : List Ty, wts (a ++ [e]) = wts a + wt e := by
    intro a
    induction a with
    | nil => simp [wts]
    | cons x r ih => simp only [List.cons_append, wts, ih]; omega
  rw [h2, h3]
theorem take_le {l : List Ty} (k : Nat) : wts (l.take k) ≤ wts l := by
  induction l generalizing k with
  | nil => simp
  | cons a r ih => cases k with
    | zero => simp [wts]
    | succ k => simp only [List.take_succ_cons, wts]; have := ih k; omega
theorem Own.ltE {w : World} {base el sz : Nat} {v : Value} {ls : List (List Value)} (h : Own w base el sz v ls) {b : Nat} (hb : w.heap.size ≤ b) : v.ownBlock ≠ some b := fun e => by have := (h.lt b e).2; omega
theorem Own.sta0 {K : Cfg} {w w' : World} {base el sz : Nat} {v : Value} {ls : List (List Value)} (x : Sta K 0 w w') (hel : plainEl el = true) (h : Own w base el sz v ls) : Own w' base el sz v ls := h.kept fun k hk => by
  simp only [plainEl, Bool.and_eq_true, bne_iff_ne] at hel
  rcases h.row.2 with ⟨h1, _⟩ | ⟨g, cap, cur, h1, _, h3, _⟩
  · rw [h1] at hk; cases hk
  · rw [h1] at hk
    cases hk
    exact (Has.sta0 x hel.1 hel.2.2.1 (⟨h3⟩ : Has w g (.cells cur el (0, 0)))).at_.trans h3.symm
theorem GI.next0 {R : RowK} {K : Cfg} {s s' s2 : Gs} {w wk w1 w2 : World} {bb : Nat} {made new new2 : List Nat} {l : List Ty} {e : Ty} {k n1 n2 : Nat} {vp vr r : Value} {vb : Nat → Nat} {vv : Nat → Value} (h : GI R K s w bb made l k n1 n2 vp vr s' new vb vv wk) (he : l[k]? = some e)
    (x : Ext wk w1) {mm : Nat} (hmm : mm ≤ wt e) (m : Made K s' w1 bb (made ++ new) mm s2 new2 w2) (rt : RT K s2 w2 (fun b => w1.heap.size ≤ b) r e) (hg : ∀ i, i < n2 → R.g2 vb (put vv k r) i = R.g2 vb vv i) (hc : R.cN ≤ k) :
    GI R K s w bb made l (k + 1) n1 n2 vp vr s2 (new ++ new2) vb (put vv k r) w2 := by
  have hs1 := h.m.sta.size
  have hs2 := x.size
  have hs3 := m.sta.size
  have op1 := h.op.ext x
  have or1 := h.or.ext x
  refine ⟨?_, Own.sta0 m.sta R.h1 op1, ?_, h.ne, fun i e' hi he' => ?_, fun i e' hi hic he' => ?_, by have := h.lt1; omega, fun d hd => (m.sn d hd).elim (h.so d) fun k => ⟨Own.ltE op1 k.1, Own.ltE or1 k.1⟩⟩
  · rw [← take_wts he]
    exact (h.m.ext x).trans (m.le hmm)
  · have := Own.sta0 m.sta R.h2 or1
    have hm : ((List.range n2).map fun i => [R.g2 vb (put vv k r) i]) = (List.range n2).map fun i => [R.g2 vb vv i] := List.map_congr_left fun i hi => by
      rw [hg i (List.mem_range.1 hi)]
    rw [hm]; exact this
  · by_cases hik : i = k
    · subst hik
      rw [he] at he'
      cases he'
      rw [put_same]
      exact rt.mono fun d _ hd => ⟨by omega, Own.ltE op1 hd, Own.ltE or1 hd⟩
    · rw [put_lt vv r (by omega)]
      exact ((RT.ext x (h.rt i e' (by omega) he')).sta m.sta (by omega) |>.le m.gle.le)
  · rw [put_lt vv r (by omega)]
    obtain ⟨k1, k2⟩ := h.var i e' (by omega) hic he'
    exact ⟨k1, Has.sta0 m.sta R.tb.1 R.tb.2 (k2.ext' x)⟩
/-- one more element, with an object -/
theorem GI.next {R : RowK} {K : Cfg} {s s' s2 : Gs} {w wk w1 w2 w3 : World} {bb : Nat} {made new new2 : List Nat} {l : List Ty} {e : Ty} {k n1 n2 : Nat} {vp vr r : Value} {vb : Nat → Nat} {vv : Nat → Value} {b : Nat} (h : GI R K s w bb made l k n1 n2 vp vr s' new vb vv wk) (he : l[k]? = some e)
    (x : Ext wk w1) {mm : Nat} (hmm : mm ≤ wt e) (m : Made K s' w1 bb (made ++ new) mm s2 new2 w2) (rt : RT K s2 w2 (fun b => w1.heap.size ≤ b) r e) (nv : New w2 b (.cells (R.cf e r) R.ty) w3) (hg : ∀ i, i < n2 → R.g2 (put vb k b) (put vv k r) i = R.g2 vb vv i) :
    GI R K s w bb made l (k + 1) n1 n2 vp vr s2 (new ++ new2) (put vb k b) (put vv k r) w3 := by
  have hs1 := h.m.sta.size
  have hs2 := x.size
  have hs3 := m.sta.size
  have hbn := nv.num
  have op1 := h.op.ext x
  have or1 := h.or.ext x
  refine ⟨?_, ?_, ?_, h.ne, fun i e' hi he' => ?_, fun i e' hi hic he' => ?_, by have := h.lt1; omega, fun d hd => (m.sn d hd).elim (h.so d) fun k => ⟨Own.ltE op1 k.1, Own.ltE or1 k.1⟩⟩
  · rw [← take_wts he]
    exact ((h.m.ext x).trans (m.le hmm)).ext nv.ext
  · have := (Own.sta0 m.sta R.h1 op1).ext nv.ext
    have hm : ((List.range n1).map fun i => [pt (put vb k b i)]) = (List.range n1).map fun i => [pt (vb i)] := List.map_congr_left fun i hi => by
      rw [put_lt vb b (Nat.lt_of_lt_of_le (List.mem_range.1 hi) h.lt1)]
    rw [hm]; exact this
  · have := (Own.sta0 m.sta R.h2 or1).ext nv.ext
    have hm : ((List.range n2).map fun i => [R.g2 (put vb k b) (put vv k r) i]) = (List.range n2).map fun i => [R.g2 vb vv i] := List.map_congr_left fun i hi => by
      rw [hg i (List.mem_range.1 hi)]
    rw [hm]; exact this
  · by_cases hik : i = k
    · subst hik
      rw [he] at he'
      cases he'
      rw [put_same]
      exact (RT.ext nv.ext rt).mono fun d _ hd => ⟨by omega, Own.ltE op1 hd, Own.ltE or1 hd⟩
    · rw [put_lt vv r (by omega)]
      exact RT.ext nv.ext ((RT.ext x (h.rt i e' (by omega) he')).sta m.sta (by omega) |>.le m.gle.le)
  · by_cases hik : i = k
    · subst hik
      rw [he] at he'
      cases he'
      rw [put_same, put_same]
      exact ⟨by omega, nv.has⟩
    · rw [put_lt vv r (by omega), put_lt vb b (by omega)]
      obtain ⟨k1, k2⟩ := h.var i e' (by omega) hic he'
      exact ⟨k1, Has.ext' nv.ext (Has.sta0 m.sta R.tb.1 R.tb.2 (k2.ext' x))⟩
theorem GI.ext {R : RowK} {K : Cfg} {s s' : Gs} {w wk w2 : World} {bb : Nat} {made new : List Nat} {l : List Ty} {k n1 n2 : Nat} {vp vr : Value} {vb : Nat → Nat} {vv : Nat → Value} (h : GI R K s w bb made l k n1 n2 vp vr s' new vb vv wk) (x : Ext wk w2) :
    GI R K s w bb made l k n1 n2 vp vr s' new vb vv w2 :=
  ⟨h.m.ext x, h.op.ext x, h.or.ext x, h.ne, fun i e hi he => RT.ext x (h.rt i e hi he), fun i e hi hc he => ⟨(h.var i e hi hc he).1, Has.ext' x (h.var i e hi hc he).2⟩, h.lt1, h.so⟩
/-- appending to the first row -/
theorem GI.app1 {R : RowK} {K : Cfg} {s s' : Gs} {w wk w2 : World} {bb : Nat} {made new : List Nat} {l : List Ty} {k n1 n2 : Nat} {vp vp' vr : Value} {vb : Nat → Nat} {vv : Nat → Value} (h : GI R K s w bb made l k n1 n2 vp vr s' new vb vv wk) (a : App wk w2 vp)
    (o : Own w2 w.heap.size R.el1 1 vp' (((List.range n1).map fun i => [pt (vb i)]) ++ [[pt (vb n1)]])) (hg : ∀ g, vp'.ownBlock = some g → vp.ownBlock = some g ∨ g = wk.heap.size) (hn : n1 < k) (hnb : K.nb < w.heap.size) :
    GI R K s w bb made l k (n1 + 1) n2 vp' vr s' new vb vv w2 := by
  have hro := h.or
  refine ⟨h.m.app a h.op (Nat.le_refl _) R.h1 hnb (fun d hd => (h.so d hd).1), by rw [← range_snoc]; exact o, hro.kept fun g hgr => a.block g (hro.lt g hgr).2 fun e => h.ne g e.symm hgr, fun g hg' e => ?_, fun i e hi he => ?_, fun i e hi hc he => ?_, hn, fun d hd => ⟨fun e => (hg d e).elim (h.so d hd).1 fun k => by have := h.m.bi.sll d hd; omega, (h.so d hd).2⟩⟩
  · rcases hg g hg' with h1 | h1
    · exact h.ne g h1 e
    · exact Own.ltE hro (Nat.le_of_eq h1.symm) e
  · have h1 : RT K s' wk (fun b => (w.heap.size ≤ b ∧ vr.ownBlock ≠ some b) ∧ vp.ownBlock ≠ some b) (vv i) e := (h.rt i e hi he).mono fun b _ hb => ⟨⟨hb.1, hb.2.2⟩, hb.2.1⟩
    exact (h1.app a hg).mono fun b _ hb => ⟨hb.1.1, hb.2, hb.1.2⟩
  · obtain ⟨k1, k2⟩ := h.var i e hi hc he
    exact ⟨k1, Has.app a h.op k2 R.t1⟩
/-- appending to the second row -/
theorem GI.app2 {R : RowK} {K : Cfg} {s s' : Gs} {w wk w2 : World} {bb : Nat} {made new : List Nat} {l : List Ty} {k n1 n2 : Nat} {vp vr vr' : Value} {vb : Nat → Nat} {vv : Nat → Value} (h : GI R K s w bb made l k n1 n2 vp vr s' new vb vv wk) (a : App wk w2 vr)
    (o : Own w2 w.heap.size R.el2 1 vr' (((List.range n2).map fun i => [R.g2 vb vv i]) ++ [[R.g2 vb vv n2]])) (hg : ∀ g, vr'.ownBlock = some g → vr.ownBlock = some g ∨ g = wk.heap.size) (hnb : K.nb < w.heap.size) :
    GI R K s w bb made l k n1 (n2 + 1) vp vr' s' new vb vv w2 := by
  have hpo := h.op
  refine ⟨h.m.app a h.or (Nat.le_refl _) R.h2 hnb (fun d hd => (h.so d hd).2), hpo.kept fun g hgr => a.block g (hpo.lt g hgr).2 fun e => h.ne g hgr e.symm, by rw [← range_snoc (fun i => [R.g2 vb vv i])]; exact o, fun g hg' e => ?_, fun i e hi he => ?_, fun i e hi hc he => ?_, h.lt1, fun d hd => ⟨(h.so d hd).1, fun e => (hg d e).elim (h.so d hd).2 fun k => by have := h.m.bi.sll d hd; omega⟩⟩
  · rcases hg g e with h1 | h1
    · exact h.ne g hg' h1
    · exact Own.ltE hpo (Nat.le_of_eq h1.symm) hg'
  · have h1 : RT K s' wk (fun b => (w.heap.size ≤ b ∧ vp.ownBlock ≠ some b) ∧ vr.ownBlock ≠ some b) (vv i) e := (h.rt i e hi he).mono fun b _ hb => ⟨⟨hb.1, hb.2.1⟩, hb.2.2⟩
    exact (h1.app a hg).mono fun b _ hb => ⟨hb.1.1, hb.1.2, hb.2⟩
  · obtain ⟨k1, k2⟩ := h.var i e hi hc he
    exact ⟨k1, Has.app a h.or k2 R.t2⟩
theorem GI.nil (R : RowK) {K : Cfg} {s : Gs} {w : World} {bb : Nat} {made : List Nat} (l : List Ty) (h : BI K s w bb made) (vb : Nat → Nat) (vv : Nat → Value) : GI R K s w bb made l 0 0 0 (.slice none 0 0) (.slice none 0 0) s [] vb vv w :=
  ⟨(Made.rfl' h (Ext.rfl' w)).le (Nat.zero_le _), by simpa using Own.nil w w.heap.size R.el1 1, by simpa using Own.nil w w.heap.size R.el2 1, fun g hg => (by cases hg), fun i e hi => (by omega), fun i e hi => (by omega), Nat.le_refl _, fun d _ => ⟨fun e => (by cases e), fun e => (by cases e)⟩⟩
end Go.Proofs.YtelmnkfdpnkpoaaGreatDoor
namespace Go.Proofs.YtelmnkfdpnkpoaaGreatDoor
open Go Go.Kd
set_option maxRecDepth 100000

theorem c_NewTuple' (a : Option Addr) (n c : Nat) (w : World) : Calls Tryz.prog 87 #[.slice a n c] w (Ret fun r w' => ∃ q : Option Addr, r = .pointer q ∧ Ext w w' ∧ ((q = none ∧ n = 0) ∨ ∃ b, q = some ⟨b, 0, none⟩ ∧ 0 < n ∧ w.heap.size ≤ b ∧ Has w' b (.cells #[.slice a n c] 206))) :=
  (c_NewTuple a n c w).mono fun e w' ⟨v, he, h⟩ => ⟨v, he, by
    rcases h with ⟨h1, h2, h3⟩ | ⟨b, h1, h2, h3⟩
    · exact ⟨none, h2, h3 ▸ Ext.rfl' w, .inl ⟨rfl, h1⟩⟩
    · exact ⟨_, h2, h3.ext, .inr ⟨b, rfl, h1, Nat.le_of_eq h3.num.symm, h3.has⟩⟩⟩
theorem c_NewSig (rv ps rs : Option Addr) (vr : Bool) (w : World) (hl : vr = true → LastSl w (.pointer ps)) :
    Calls Tryz.prog 109 #[.pointer rv, .slice none 0 0, .slice none 0 0, .pointer ps, .pointer rs, .bool vr] w (Ret fun r w' => ∃ b, r = pt b ∧ w.heap.size ≤ b ∧ Has w' b (.cells #[.pointer rv, .pointer none, .pointer ps, .pointer rs, .bool vr] tSG) ∧ Ext w w') := by
  cases vr
  · exact c_NewSignatureType0 rv ps rs w
  · exact c_NewSignatureType1 rv ps rs w (hl rfl)
/-- parameters and results -/
def rkS (pv : Value) (c cN : Nat) : RowK := ⟨tVR, fun e v => #[.int .i64 0, pv, .string e.name, v, .int .u8 4, .bool false], tVA, tVA, fun vb _ i => pt (vb (c + i)), cN, rfl, rfl, by decide, by decide, by decide, by decide⟩
/-- a function type is made; rv: its receiver -/
def SigR (K : Cfg) (s : Gs) (w : World) (bb : Nat) (made : List Nat) (t : Ty) (rv : Option Addr) (r : Value) (w' : World) : Prop :=
  ∃ b ps rs s' new, r = pt b ∧ Made K s w bb made (wts t.elems) s' new w' ∧ RT K s' w' (fun b => w.heap.size ≤ b) (.iface tSP (pt b)) t ∧ w.heap.size ≤ b ∧ Has w' b (.cells #[.pointer rv, .pointer none, .pointer ps, .pointer rs, .bool t.vr] tSG)
set_option maxHeartbeats 4000000 in
theorem c_signature (D : List De) (K : Cfg) (i : Nat) (t : Ty) (hk : t.kind = 8) (ih : ∀ (j : Nat) e, t.elems[j]? = some e → TypC D K i e) (s : Gs) (w : World) (bb : Nat) (made : List Nat) (p : Nat → Prop) (cs : List Value) (rv : Option Addr)
    (hx : Ctx D K i s w bb made) (ha : Ask D i w K p cs t) (hb : wt t + made.length ≤ Big) :
    Calls Tryz.prog 75 #[pt bb, .pointer rv, .agg cs.toArray] w (Ret (SigR K s w bb made t rv)) := by
  replace hb : wt t + made.length ≤ 268435456 := hb
  obtain ⟨a, cp, rfl, hv⟩ := ha.open
  obtain ⟨v, hs⟩ := ha.sh
  have hc0 := hs.shape.c0 (.inl hk)
  have hc1 := hs.shape.c1 (.inl hk)
  obtain ⟨c, hc⟩ := Int.eq_ofNat_of_zero_le hc0
  have hcl : c ≤ t.elems.length := by omega
  have hwt := wt_eq t
  have hlen := wts_len t.elems
  obtain ⟨na, nl, nc, vm, hbb, how, hnm⟩ := hx.bi.ex
  obtain ⟨pc, px, hpc, _⟩ := hx.bi.pkg 0 (.inl rfl)
  rw [hpc] at hbb
  refine W.enter (args := [pt bb, .pointer rv, .agg (tyl t.kind t.n t.count t.vr (.slice a t.elems.length cp) t.name t.tag t.emb).toArray]) Tryz.func75 rfl Tryz.ntmps75 rfl rfl ?_
  refine zst ?_
  refine WU.stp rfl rfl rfl (by first | exact stp_box rfl rfl | exact stp_box1 rfl rfl) ?_
  rintro _ w1 ⟨b1, rfl, n1⟩
  have ib1 := n1.has
  refine zst ?_
  have hnb1 : K.nb < w1.heap.size := Nat.lt_of_lt_of_le hx.bi.nbL n1.ext.size
  refine W.loop (σ := Nat × Value × Value) (fun (k, vp, vr) => [(15, .int .i64 k), (14, .int .i64 t.elems.length), (13, .slice a t.elems.length cp), (7, vp), (8, vr), (5, pt b1), (0, pt bb), (1, .pointer rv)])
    (fun (k, vp, vr) D' wk => D' = [] ∧ k ≤ t.elems.length ∧ Has wk b1 (.cells (tyl t.kind t.n t.count t.vr (.slice a t.elems.length cp) t.name t.tag t.emb).toArray 26) ∧ ∃ s' new vb vv, GI (rkS (pt pc) c t.elems.length) K s w1 bb made t.elems k (min k c) (k - c) vp vr s' new vb vv wk)
    (fun (k, _, _) => t.elems.length - k) (0, .slice none 0 0, .slice none 0 0)
    ⟨rfl, Nat.zero_le _, ib1, s, [], fun _ => 0, fun _ => .nilIface, by simpa using GI.nil _ _ (hx.bi.ext n1.ext) _ _⟩
    (by exact sub_of ⟨rfl, rfl, rfl, rfl, rfl, rfl, rfl, rfl, trivial⟩) ?_
  rintro ⟨k, vp, vr⟩ D' wk ⟨rfl, hkl, ibk, s', new, vb, vv, hI⟩
  refine zst ?_
  by_cases hlt : k < t.elems.length
  · rw [show decide ((k : Int) < (t.elems.length : Int)) = true by simpa using hlt]
    have he := List.getElem?_eq_getElem hlt
    generalize t.elems[k] = e at he
    obtain ⟨b, o, a3, c3, rfl, hpb, hcc, hae⟩ := ha.el hv he
    have hm := hI.m
    have xk : Sta K 0 w wk := (Sta.of_ext n1.ext).trans hm.sta
    have hck : Cells wk b (o + k * 8) (tyc e a3 c3) := Cells.sameB (xk.old b (ha.p b hpb).1 (ha.p b hpb).2) hcc
    have hwe := take_wts he
    have hwl := take_le (l := t.elems) (k + 1)
    have hln := hm.len
    refine zst ?_
    refine WU.yld rfl rfl rfl (yld_load_cells rfl hck) ?_
    refine WU.stp rfl rfl rfl stp_alloc ?_
    rintro _ w2 ⟨b2, rfl, n2⟩
    refine zst ?_
    refine WU.stp0 rfl rfl (stp_store_whole rfl rfl rfl rfl) ?_
    rintro _ w3 u3
    have x3 : Ext wk w3 := (u3.ofNew n2).ext
    have ib3 := ibk.ext' x3
    have ie3 := u3.has
    obtain ⟨vm3, hbb3⟩ := Has.staB (xk.ext x3) hbb
    obtain ⟨F, hFd⟩ : ∃ F : World → Prop, ∀ W, F W ↔ (Has W b2 (.cells (tyc e a3 c3).toArray 26) ∧ ∃ u, Has W bb (.cells #[pt pc, s.pk 1, .slice na nl nc, s.er, u] tBU)) := ⟨fun W => (Has W b2 (.cells (tyc e a3 c3).toArray 26) ∧ ∃ u, Has W bb (.cells #[pt pc, s.pk 1, .slice na nl nc, s.er, u] tBU)), fun _ => Iff.rfl⟩
    refine zst ?_
    refine W.regR (R := fun a b => F a → F b) (fun _ h => h) (fun _ _ _ h k x => k (h x)) [(0, .q), (1, .q), (2, .q), (3, .q), (4, .q), (5, .q), (6, .q), (7, .q), (8, .q), (9, .l), (10, .l), (11, .q)] (by kernel_rfl) (by kernel_rfl) rfl ?_
    intro w4 x4 _
    have hF : F w4 := (hFd _).2 ⟨ie3.ext' x4, vm3, hbb3.ext' x4⟩
    have x34 := x3.trans x4
    (repeat (first
        | refine WR.nilk ?_
        | refine WR.nil ?_
        | refine WR.yld (fun _ h => h) rfl rfl rfl rfl (fun w' hx => by obtain ⟨i1, u, i2⟩ := (hFd _).1 (hx hF); first | exact zyl | (exact yld_indexAddr_arr (i := 0) rfl rfl (by omega)) | exact yld_indexAddr_arr rfl rfl (by omega)) ?_
        | refine WR.skip rfl rfl rfl rfl ?_))
    have hx4 : Ctx D K i s' w4 bb (made ++ new) := ((hx.ext n1.ext).made hm).ext x34
    refine WR.stp rfl rfl rfl rfl (stp_call rfl (ih k e he s' w4 bb (made ++ new) p _ hx4 ((hae.sta xk).ext x34) (by rw [List.length_append]; show _ ≤ 268435456; omega))) ?_
    rintro r w5 ⟨s2, new2, m5, rt5, T, eb, rfl⟩
    have hF : F w5 := by
      obtain ⟨i1, u, i2⟩ := (hFd _).1 hF
      exact (hFd _).2 ⟨Has.sta m5.sta i1, Has.staB m5.sta i2⟩
    refine ⟨fun _ => hF, ?_⟩
    (repeat (first
        | refine WR.nilk ?_
        | refine WR.nil ?_
        | refine WR.yld (fun _ h => h) rfl rfl rfl rfl (fun w' hx => by obtain ⟨i1, u, i2⟩ := (hFd _).1 (hx hF); first | exact zyl | (exact yld_indexAddr_arr (i := 0) rfl rfl (by omega)) | exact yld_indexAddr_arr rfl rfl (by omega)) ?_
        | refine WR.skip rfl rfl rfl rfl ?_))
    refine WR.stp rfl rfl rfl rfl (stp_call rfl (c_NewParam 0 (some ⟨pc, 0, none⟩) e.name T (pt eb) w5)) ?_
    rintro _ w6 ⟨b6, rfl, n6⟩
    have hF : F w6 := by
      obtain ⟨i1, u, i2⟩ := (hFd _).1 hF
      exact (hFd _).2 ⟨i1.ext' n6.ext, u, i2.ext' n6.ext⟩
    refine ⟨fun _ => hF, ?_⟩
    (repeat (first
        | refine WR.nilk ?_
        | refine WR.nil ?_
        | refine WR.yld (fun _ h => h) rfl rfl rfl rfl (fun w' hx => by obtain ⟨i1, u, i2⟩ := (hFd _).1 (hx hF); first | exact zyl | (exact yld_indexAddr_arr (i := 0) rfl rfl (by omega)) | exact yld_indexAddr_arr rfl rfl (by omega)) ?_
        | refine WR.skip rfl rfl rfl rfl ?_))
    have hI6 := hI.next he x34 (Nat.le_refl _) m5 rt5 n6 (fun i hi => congrArg pt (put_lt vb b6 (by omega)))
    have ib6 : Has w6 b1 (.cells (tyl t.kind t.n t.count t.vr (.slice (some ⟨b, o, none⟩) t.elems.length cp) t.name t.tag t.emb).toArray 26) := (Has.sta m5.sta (ib3.ext' x4)).ext' n6.ext
    rw [hc] at ib6
    refine zst ?_
    by_cases hkc : k < c
    · rw [show decide ((k : Int) < (c : Int)) = true by simpa using hkc]
      refine zst ?_
      refine WU.stp rfl rfl rfl (stp_buildSlice rfl rfl rfl rfl rfl) ?_
      rintro _ w7 ⟨b7, rfl, n7⟩
      have hI7 := hI6.ext n7.ext
      refine WU.stp rfl rfl rfl (stp_append1 (el := tVA) rfl rfl hI7.op (Cells.has n7.has) rfl rfl (by omega) (by simp [Value.oneCell']) (by rw [List.length_map, List.length_range]; omega) (Nat.le_trans hI7.m.sta.size (Nat.le_refl _))) ?_
      rintro v' w8 ⟨o8, a8, g8⟩
      have hI8 := hI7.app1 a8 (by rw [show min k c = k from Nat.min_eq_left (Nat.le_of_lt hkc)] at o8 ⊢; rw [put_same]; exact o8) g8 (by omega) hnb1
      have ib8 := Has.app (el := tVA) a8 hI7.op (ib6.ext' n7.ext) (by decide)
      refine zst ?_
      refine ⟨(k + 1, v', vr), by show t.elems.length - (k + 1) < t.elems.length - k; omega, ⟨rfl, by omega, by rw [hc]; exact ib8, s2, new ++ new2, put vb k b6, put vv k (.iface T (pt eb)), ?_⟩, sub_of ⟨rfl, rfl, rfl, rfl, rfl, rfl, rfl, rfl, trivial⟩⟩
      rw [show min (k + 1) c = min k c + 1 from by omega, show k + 1 - c = k - c from by omega]
      exact hI8
    · rw [show decide ((k : Int) < (c : Int)) = false by simpa using hkc]
      refine zst ?_
      refine WU.stp rfl rfl rfl (stp_buildSlice rfl rfl rfl rfl rfl) ?_
      rintro _ w7 ⟨b7, rfl, n7⟩
      have hI7 := hI6.ext n7.ext
      refine WU.stp rfl rfl rfl (stp_append1 (el := tVA) rfl rfl hI7.or (Cells.has n7.has) rfl rfl (by omega) (by simp [Value.oneCell']) (by rw [List.length_map, List.length_range]; omega) (Nat.le_trans hI7.m.sta.size (Nat.le_refl _))) ?_
      rintro v' w8 ⟨o8, a8, g8⟩
      have hI8 := hI7.app2 a8 (by show Own _ _ _ _ _ (_ ++ [[pt (put vb k b6 (c + (k - c)))]]); rw [show c + (k - c) = k from by omega, put_same]; exact o8) g8 hnb1
      have ib8 := Has.app (el := tVA) a8 hI7.or (ib6.ext' n7.ext) (by decide)
      refine zst ?_
      refine ⟨(k + 1, vp, v'), by show t.elems.length - (k + 1) < t.elems.length - k; omega, ⟨rfl, by omega, by rw [hc]; exact ib8, s2, new ++ new2, put vb k b6, put vv k (.iface T (pt eb)), ?_⟩, sub_of ⟨rfl, rfl, rfl, rfl, rfl, rfl, rfl, rfl, trivial⟩⟩
      rw [show min (k + 1) c = min k c from by omega, show k + 1 - c = k - c + 1 from by omega]
      exact hI8
  · rw [show decide ((k : Int) < (t.elems.length : Int)) = false by simpa using hlt]
    have hkl' : k = t.elems.length := by omega
    subst hkl'
    rw [Nat.min_eq_right hcl] at hI
    obtain ⟨a1, c1, rfl, hr1⟩ := Own.row1 hI.op
    obtain ⟨a2, c2, rfl, hr2⟩ := Own.row1 hI.or
    refine zst ?_
    refine W.regD [(0, .q), (1, .q), (3, .q), (5, .q), (6, .q), (2, .l), (4, .l), (7, .l), (8, .q)] (by kernel_rfl) (by kernel_rfl) rfl ?_
    intro w2 x2 _
    have ib2 := ibk.ext' x2
    refine zsd ?_
    refine WD.stp rfl rfl rfl rfl (stp_call rfl (c_NewTuple' a1 c c1 w2)) ?_
    rintro _ w3 ⟨q1, rfl, x3, ht1⟩
    refine ⟨by first | assumption | exact Ext.rfl' _ | infer_instance, ?_⟩
    have ib3 := ib2.ext' x3
    refine zsd ?_
    refine WD.stp rfl rfl rfl rfl (stp_call rfl (c_NewTuple' a2 (t.elems.length - c) c2 w3)) ?_
    rintro _ w4 ⟨q2, rfl, x4, ht2⟩
    refine ⟨by first | assumption | exact Ext.rfl' _ | infer_instance, ?_⟩
    have ib4 := ib3.ext' x4
    refine zsd ?_
    have x24 := (x2.trans x3).trans x4
    have hI4 := hI.ext x24
    have row1 : ∀ i, i < c → ∃ g cs', a1 = some ⟨g, 0, none⟩ ∧ w1.heap.size ≤ g ∧ Has w4 g (.cells cs' tVA) ∧ cs'[i]? = some (pt (vb i)) := fun i hi => by
      obtain ⟨g, cs', k1, k2, _, k3, k4⟩ := hr1 i hi
      exact ⟨g, cs', k1, k2, k3.ext' x24, k4⟩
    have row2 : ∀ i, i < t.elems.length - c → ∃ g cs', a2 = some ⟨g, 0, none⟩ ∧ w1.heap.size ≤ g ∧ Has w4 g (.cells cs' tVA) ∧ cs'[i]? = some (pt (vb (c + i))) := fun i hi => by
      obtain ⟨g, cs', k1, k2, _, k3, k4⟩ := hr2 i hi
      exact ⟨g, cs', k1, k2, k3.ext' x24, k4⟩
    have hvar := fun (i : Nat) e (hi : i < t.elems.length) he => hI4.var i e hi hi he
    have hlast : t.vr = true → LastSl w4 (.pointer q1) := fun hvr => by
      obtain ⟨e, h0, h1, h2⟩ := hs.shape.vr hk hvr
      have hc1' : c ≠ 0 := fun e => h0 (by rw [hc, e]; rfl)
      have h1' : t.elems[c - 1]? = some e := by rw [← h1]; congr 1; omega
      rcases ht1 with ⟨_, h⟩ | ⟨tb, rfl, hpos, _, htb⟩
      · omega
      · obtain ⟨sb, hsb⟩ := (hI4.rt (c - 1) e (by omega) h1').kind3 h2
        obtain ⟨_, hv1⟩ := hI4.var (c - 1) e (by omega) (show c - 1 < t.elems.length by omega) h1'
        rw [hsb] at hv1
        exact ⟨tb, a1, c, c1, vb, sb, _, _, _, rfl, hpos, htb.ext' x4, fun i hi => by
          obtain ⟨g, cs', k1, _, k3, k4⟩ := row1 i hi
          exact ⟨g, cs', k1, k3, k4⟩, hv1, by omega⟩
    refine WD.stp rfl rfl rfl rfl (stp_call rfl (c_NewSig rv q1 q2 t.vr w4 hlast)) ?_
    rintro _ w5 ⟨b5, rfl, hb5, hh5, x5⟩
    refine ⟨by first | assumption | exact Ext.rfl' _ | infer_instance, ?_⟩
    refine zsd ?_
    refine zst ?_
    have hI5 := hI4.ext x5
    have hge5 : w1.heap.size ≤ b5 := by have := hI4.m.sta.size; omega
    have hnone : s'.g b5 = none := hI4.m.bi.fresh hb5
    have hni : ¬ isIf t := by
      rintro (h | h)
      · omega
      · omega
    have hsz1 := n1.ext.size
    have hm5 := hI5.m
    rw [List.take_length] at hm5
    refine fin1 (.inl rfl) rfl rfl ⟨b5, q1, q2, s'.set b5 t, new, rfl, (hm5.set hge5 hnone hh5.lt hni).before n1.ext, .func t b5 (.pointer q1) (.pointer q2) vb vv hk (fun i e he => ?_) (fun i e he => ?_) (by omega) ⟨_, hh5⟩ ?_ ?_ (Gs.set_same ..), by omega, hh5⟩
    · exact ((hI5.rt i e (List.getElem?_eq_some_iff.1 he).1 he).le (Gs.gle_set hnone).le).mono fun d _ hd => by omega
    · obtain ⟨k1, k2⟩ := hI5.var i e (List.getElem?_eq_some_iff.1 he).1 (List.getElem?_eq_some_iff.1 he).1 he
      exact ⟨_, _, by omega, k2⟩
    · rcases ht1 with ⟨rfl, h⟩ | ⟨tb, rfl, hpos, htg, htb⟩
      · exact .inl ⟨rfl, by omega⟩
      · refine .inr ⟨tb, a1, c1, rfl, by omega, by have := (hI.ext x2).m.sta.size; omega, ?_, fun i hi => ?_⟩
        · rw [show t.count.toNat = c from by omega]; exact (htb.ext' x4).ext' x5
        · obtain ⟨g, cs', k1, k2, k3, k4⟩ := row1 i (by omega)
          exact ⟨g, cs', k1, by omega, k3.ext' x5, k4⟩
    · rw [show t.count.toNat = c from by omega]
      rcases ht2 with ⟨rfl, h⟩ | ⟨tb, rfl, hpos, htg, htb⟩
      · exact .inl ⟨rfl, h⟩
      · refine .inr ⟨tb, a2, c2, rfl, hpos, by have := ((hI.ext x2).ext x3).m.sta.size; omega, htb.ext' x5, fun i hi => ?_⟩
        obtain ⟨g, cs', k1, k2, k3, k4⟩ := row2 i hi
        exact ⟨g, cs', k1, by omega, k3.ext' x5, k4⟩
end Go.Proofs.YtelmnkfdpnkpoaaGreatDoor
namespace Go.Proofs.YtelmnkfdpnkpoaaGreatDoor
open Go Go.Kd
set_option maxRecDepth 100000

theorem typ_func (D : List De) (K : Cfg) (i : Nat) (t : Ty) (hk : t.kind = 8) (ih : ∀ (j : Nat) e, t.elems[j]? = some e → TypC D K i e) : TypC D K i t := by
  intro s w bb made p cs hx ha hb
  obtain ⟨a, cp, rfl, hv⟩ := ha.open
  have hl : tyc t a cp = tyl 8 t.n t.count t.vr (.slice a t.elems.length cp) t.name t.tag t.emb := by unfold tyc; rw [hk]
  rw [hl]
  refine W.enter (args := [pt bb, .agg (tyl 8 t.n t.count t.vr (.slice a t.elems.length cp) t.name t.tag t.emb).toArray]) Tryz.func69 rfl Tryz.ntmps69 rfl rfl ?_
  refine zst ?_
  refine WU.stp rfl rfl rfl (by first | exact stp_box rfl rfl | exact stp_box1 rfl rfl) ?_
  rintro _ w1 ⟨b1, rfl, n1⟩
  refine zst ?_
  have hsig := c_signature D K i t hk ih s w1 bb made p _ none (hx.ext n1.ext) (ha.ext n1.ext) hb
  rw [hl] at hsig
  refine WU.stp rfl rfl rfl (stp_call rfl hsig) ?_
  rintro _ w2 ⟨b, ps, rs, s', new, rfl, m, rt, hge, hh⟩
  refine zst ?_
  exact fin1 (.inl rfl) rfl rfl ⟨s', new, (m.le (by rw [wt_eq t]; omega)).before n1.ext, rt.mono fun c _ hc => Nat.le_trans n1.ext.size hc, _, _, rfl⟩

abbrev tST : Nat := 9
/-- fields and tags -/
def rkT (pv : Value) (tg : Nat → ByteArray) (cN : Nat) : RowK := ⟨tVR, fun e v => #[.int .i64 0, pv, .string e.name, v, .int .u8 6, .bool e.emb], tVA, tST, fun _ _ i => .string (tg i), cN, rfl, rfl, by decide, by decide, by decide, by decide⟩
theorem wt_name (t : Ty) : t.name.size ≤ wt t := by rw [wt_eq t]; omega
theorem pth_nodot (n : Int) : ∀ c ∈ (pth n).toList, c ≠ 46 := by
  unfold pth
  split <;> (rw [Lib.toList_data]; decide)
theorem pth_ne (n : Int) : (pth n).toList ≠ [] := by
  unfold pth
  split <;> (rw [Lib.toList_data]; decide)
theorem pth_size (n : Int) : (pth n).size = 1 := by
  unfold pth
  split <;> rfl
theorem uniq_names {l : List Ty} (h : Uniq (names l)) : (∀ (i : Nat) e, l[i]? = some e → Ident e.name.toList) ∧ ∀ (i j : Nat) e f, i < j → l[i]? = some e → l[j]? = some f → e.name.toList = f.name.toList → e.name.toList = us := by
  have hn : ∀ (i : Nat) e, l[i]? = some e → (names l)[i]? = some e.name.toList := fun i e he => by unfold names; rw [List.getElem?_map, he]; rfl
  exact ⟨fun i e he => h.id i _ (hn i e he), fun i j e f hij he hf heq => h.un i j _ hij (hn i e he) (by rw [heq]; exact hn j f hf)⟩
set_option maxHeartbeats 4000000 in
theorem typ_struct (D : List De) (K : Cfg) (i : Nat) (t : Ty) (hk : t.kind = 7) (ih : ∀ (j : Nat) e, t.elems[j]? = some e → TypC D K i e) : TypC D K i t := by
  intro s w bb made p cs hx ha hb
  replace hb : wt t + made.length ≤ 268435456 := hb
  obtain ⟨a, cp, rfl, hv⟩ := ha.open
  obtain ⟨v, hs⟩ := ha.sh
  have hn0 := hs.shape.n0 (by rw [hk]; simp [limitN])
  have hn1 := hs.shape.n1 (by rw [hk]; simp [limitN])
  rw [hk] at hn1
  have hn2 : t.n < 2 := by simpa [limitN] using hn1
  obtain ⟨m, hm⟩ := Int.eq_ofNat_of_zero_le hn0
  have hm2 : m < 2 := by omega
  have hwt := wt_eq t
  have hlen := wts_len t.elems
  obtain ⟨na, nl, nc, vm, hbb, how, hnm⟩ := hx.bi.ex
  obtain ⟨pc, px, hpc, hpk⟩ := hx.bi.pkg t.n (by omega)
  have pkc : ∀ (W : World) (u : Value), Has W bb (.cells #[s.pk 0, s.pk 1, .slice na nl nc, s.er, u] tBU) → W.cell? ⟨bb, m, none⟩ = some (pt pc) := fun W u h => by
    rw [← hpc, hm]
    match m, hm2 with
    | 0, _ => exact cell_of h rfl
    | 1, _ => exact cell_of h rfl
  have hl : tyc t a cp = tyl 7 m t.count t.vr (.slice a t.elems.length cp) t.name t.tag t.emb := by unfold tyc; rw [hk, hm]
  rw [hl]
  let tg : Nat → ByteArray := fun i => (t.elems.getD i anyT).tag
  refine W.enter (args := [pt bb, .agg (tyl 7 m t.count t.vr (.slice a t.elems.length cp) t.name t.tag t.emb).toArray]) Tryz.func69 rfl Tryz.ntmps69 rfl rfl ?_
  refine zst ?_
  refine WU.stp rfl rfl rfl (by first | exact stp_box rfl rfl | exact stp_box1 rfl rfl) ?_
  rintro _ w1 ⟨b1, rfl, n1⟩
  have ib1 := n1.has
  refine zst ?_
  have hnb1 : K.nb < w1.heap.size := Nat.lt_of_lt_of_le hx.bi.nbL n1.ext.size
  refine W.loop (σ := Nat × Value × Value) (fun (k, vp, vr) => [(100, .int .i64 k), (99, .int .i64 t.elems.length), (98, .slice a t.elems.length cp), (5, vp), (6, vr), (3, pt b1), (0, pt bb)])
    (fun (k, vp, vr) D' wk => D' = [] ∧ k ≤ t.elems.length ∧ Has wk b1 (.cells (tyl 7 m t.count t.vr (.slice a t.elems.length cp) t.name t.tag t.emb).toArray 26) ∧ ∃ s' new vb vv, GI (rkT (pt pc) tg t.elems.length) K s w1 bb made t.elems k k k vp vr s' new vb vv wk)
    (fun (k, _, _) => t.elems.length - k) (0, .slice none 0 0, .slice none 0 0)
    ⟨rfl, Nat.zero_le _, ib1, s, [], fun _ => 0, fun _ => .nilIface, GI.nil _ _ (hx.bi.ext n1.ext) _ _⟩
    (by exact sub_of ⟨rfl, rfl, rfl, rfl, rfl, rfl, rfl, trivial⟩) ?_
  rintro ⟨k, vp, vr⟩ D' wk ⟨rfl, hkl, ibk, s', new, vb, vv, hI⟩
  refine zst ?_
  by_cases hlt : k < t.elems.length
  · rw [show decide ((k : Int) < (t.elems.length : Int)) = true by simpa using hlt]
    have he := List.getElem?_eq_getElem hlt
    have htg : tg k = t.elems[k].tag := by show (t.elems.getD k anyT).tag = _; rw [List.getD_eq_getElem?_getD, he]; rfl
    generalize t.elems[k] = e at he htg
    obtain ⟨b, o, a3, c3, rfl, hpb, hcc, hae⟩ := ha.el hv he
    have hm' := hI.m
    have xk : Sta K 0 w wk := (Sta.of_ext n1.ext).trans hm'.sta
    have hck : Cells wk b (o + k * 8) (tyc e a3 c3) := Cells.sameB (xk.old b (ha.p b hpb).1 (ha.p b hpb).2) hcc
    have hwe := take_wts he
    have hwl := take_le (l := t.elems) (k + 1)
    have hln := hm'.len
    refine zst ?_
    refine WU.yld rfl rfl rfl (yld_load_cells rfl hck) ?_
    refine WU.stp rfl rfl rfl stp_alloc ?_
    rintro _ w2 ⟨b2, rfl, n2⟩
    refine WU.stp0 rfl rfl (stp_store_whole rfl rfl rfl rfl) ?_
    rintro _ w3 u3
    have x3 : Ext wk w3 := (u3.ofNew n2).ext
    have ib3 := ibk.ext' x3
    have ie3 := u3.has
    obtain ⟨vm3, hbb3⟩ := Has.staB (xk.ext x3) hbb
    obtain ⟨F, hFd⟩ : ∃ F : World → Prop, ∀ W, F W ↔ (Has W b2 (.cells (tyc e a3 c3).toArray 26) ∧ Has W b1 (.cells (tyl 7 m t.count t.vr (.slice (some ⟨b, o, none⟩) t.elems.length cp) t.name t.tag t.emb).toArray 26) ∧ ∃ u, Has W bb (.cells #[s.pk 0, s.pk 1, .slice na nl nc, s.er, u] tBU)) := ⟨fun W => (Has W b2 (.cells (tyc e a3 c3).toArray 26) ∧ Has W b1 (.cells (tyl 7 m t.count t.vr (.slice (some ⟨b, o, none⟩) t.elems.length cp) t.name t.tag t.emb).toArray 26) ∧ ∃ u, Has W bb (.cells #[s.pk 0, s.pk 1, .slice na nl nc, s.er, u] tBU)), fun _ => Iff.rfl⟩
    refine zst ?_
    refine W.regR (R := fun a b => F a → F b) (fun _ h => h) (fun _ _ _ h k x => k (h x)) [(0, .q), (1, .q), (2, .q), (3, .q), (4, .q), (5, .q), (6, .q), (7, .q), (8, .q), (9, .q), (10, .q), (11, .q), (13, .q), (14, .q), (12, .l), (15, .l), (16, .l), (17, .l), (18, .q)] (by kernel_rfl) (by kernel_rfl) rfl ?_
    intro w4 x4 _
    have hF : F w4 := (hFd _).2 ⟨ie3.ext' x4, ib3.ext' x4, vm3, hbb3.ext' x4⟩
    have x34 := x3.trans x4
    (repeat (first
        | refine WR.nilk ?_
        | refine WR.nil ?_
        | refine WR.yld (fun _ h => h) rfl rfl rfl rfl (fun w' hx => by obtain ⟨i1, i0, u, i2⟩ := (hFd _).1 (hx hF); first | exact zyl | (exact by first | exact yld_indexAddr_arr (i := m) rfl rfl (by omega) | exact yld_load_c rfl (pkc _ u i2)) | exact yld_indexAddr_arr rfl rfl (by omega)) ?_
        | refine WR.skip rfl rfl rfl rfl ?_))
    have hx4 : Ctx D K i s' w4 bb (made ++ new) := ((hx.ext n1.ext).made hm').ext x34
    refine WR.stp rfl rfl rfl rfl (stp_call rfl (ih k e he s' w4 bb (made ++ new) p _ hx4 ((hae.sta xk).ext x34) (by rw [List.length_append]; show _ ≤ 268435456; omega))) ?_
    rintro r w5 ⟨s2, new2, m5, rt5, T, eb, rfl⟩
    have hF : F w5 := by
      obtain ⟨i1, i0, u, i2⟩ := (hFd _).1 hF
      exact (hFd _).2 ⟨Has.sta m5.sta i1, Has.sta m5.sta i0, Has.staB m5.sta i2⟩
    refine ⟨fun _ => hF, ?_⟩
    (repeat (first
        | refine WR.nilk ?_
        | refine WR.nil ?_
        | refine WR.yld (fun _ h => h) rfl rfl rfl rfl (fun w' hx => by obtain ⟨i1, i0, u, i2⟩ := (hFd _).1 (hx hF); first | exact zyl | (exact by first | exact yld_indexAddr_arr (i := m) rfl rfl (by omega) | exact yld_load_c rfl (pkc _ u i2)) | exact yld_indexAddr_arr rfl rfl (by omega)) ?_
        | refine WR.skip rfl rfl rfl rfl ?_))
    refine WR.stp rfl rfl rfl rfl (stp_call rfl (c_NewField 0 (some ⟨pc, 0, none⟩) e.name T (pt eb) e.emb w5)) ?_
    rintro _ w6 ⟨b6, rfl, n6⟩
    have hF : F w6 := by
      obtain ⟨i1, i0, u, i2⟩ := (hFd _).1 hF
      exact (hFd _).2 ⟨i1.ext' n6.ext, i0.ext' n6.ext, u, i2.ext' n6.ext⟩
    refine ⟨fun _ => hF, ?_⟩
    (repeat (first
        | refine WR.nilk ?_
        | refine WR.nil ?_
        | refine WR.yld (fun _ h => h) rfl rfl rfl rfl (fun w' hx => by obtain ⟨i1, i0, u, i2⟩ := (hFd _).1 (hx hF); first | exact zyl | (exact by first | exact yld_indexAddr_arr (i := m) rfl rfl (by omega) | exact yld_load_c rfl (pkc _ u i2)) | exact yld_indexAddr_arr rfl rfl (by omega)) ?_
        | refine WR.skip rfl rfl rfl rfl ?_))
    have hI6 := hI.next he x34 (Nat.le_refl _) m5 rt5 n6 (fun i hi => rfl)
    refine WR.stp rfl rfl rfl rfl (stp_buildSlice rfl rfl rfl rfl rfl) ?_
    rintro _ w7 ⟨b7, rfl, n7⟩
    have hF : F w7 := by
      obtain ⟨i1, i0, u, i2⟩ := (hFd _).1 hF
      exact (hFd _).2 ⟨i1.ext' n7.ext, i0.ext' n7.ext, u, i2.ext' n7.ext⟩
    refine ⟨fun _ => hF, ?_⟩
    (repeat (first
        | refine WR.nilk ?_
        | refine WR.nil ?_
        | refine WR.yld (fun _ h => h) rfl rfl rfl rfl (fun w' hx => by obtain ⟨i1, i0, u, i2⟩ := (hFd _).1 (hx hF); first | exact zyl | (exact by first | exact yld_indexAddr_arr (i := m) rfl rfl (by omega) | exact yld_load_c rfl (pkc _ u i2)) | exact yld_indexAddr_arr rfl rfl (by omega)) ?_
        | refine WR.skip rfl rfl rfl rfl ?_))
    have hI7 := hI6.ext n7.ext
    have hsz1 := n1.ext.size
    refine WR.stp rfl rfl rfl rfl (stp_append1 (el := tVA) rfl rfl hI7.op (Cells.has n7.has) rfl rfl (by omega) (by simp [Value.oneCell']) (by rw [List.length_map, List.length_range]; omega) (Nat.le_trans hI7.m.sta.size (Nat.le_refl _))) ?_
    rintro v' w8 ⟨o8, a8, g8⟩
    have hF : F w8 := by
      obtain ⟨i1, i0, u, i2⟩ := (hFd _).1 hF
      exact (hFd _).2 ⟨Has.app (el := tVA) a8 hI7.op i1 (by decide), Has.app (el := tVA) a8 hI7.op i0 (by decide), u, Has.app (el := tVA) a8 hI7.op i2 (by decide)⟩
    refine ⟨fun _ => hF, ?_⟩
    (repeat (first
        | refine WR.nilk ?_
        | refine WR.nil ?_
        | refine WR.yld (fun _ h => h) rfl rfl rfl rfl (fun w' hx => by obtain ⟨i1, i0, u, i2⟩ := (hFd _).1 (hx hF); first | exact zyl | (exact by first | exact yld_indexAddr_arr (i := m) rfl rfl (by omega) | exact yld_load_c rfl (pkc _ u i2)) | exact yld_indexAddr_arr rfl rfl (by omega)) ?_
        | refine WR.skip rfl rfl rfl rfl ?_))
    have hI8 := hI7.app1 a8 (by rw [put_same]; exact o8) g8 (by omega) hnb1
    obtain ⟨je8, jb8, _, _⟩ := (hFd _).1 hF
    refine zst ?_
    refine WU.stp rfl rfl rfl (stp_buildSlice rfl rfl rfl rfl rfl) ?_
    rintro _ w9 ⟨b9, rfl, n9⟩
    have hI9 := hI8.ext n9.ext
    refine WU.stp rfl rfl rfl (stp_append1 (el := tST) rfl rfl hI9.or (Cells.has n9.has) rfl rfl (by omega) (by simp [Value.oneCell']) (by rw [List.length_map, List.length_range]; omega) (Nat.le_trans hI9.m.sta.size (Nat.le_refl _))) ?_
    rintro v2 w10 ⟨o10, a10, g10⟩
    have hI10 := hI9.app2 a10 (by show Own _ _ _ _ _ (_ ++ [[.string (tg k)]]); rw [htg]; exact o10) g10 hnb1
    have jb10 := Has.app (el := tST) a10 hI9.or (jb8.ext' n9.ext) (by decide)
    refine zst ?_
    exact ⟨(k + 1, v', v2), by show t.elems.length - (k + 1) < t.elems.length - k; omega, ⟨rfl, by omega, jb10, s2, new ++ new2, put vb k b6, put vv k (.iface T (pt eb)), hI10⟩, sub_of ⟨rfl, rfl, rfl, rfl, rfl, rfl, rfl, trivial⟩⟩
  · rw [show decide ((k : Int) < (t.elems.length : Int)) = false by simpa using hlt]
    have hkl' : k = t.elems.length := by omega
    subst hkl'
    obtain ⟨a1, c1, rfl, hr1⟩ := Own.row1 hI.op
    obtain ⟨a2, c2, rfl, hr2⟩ := Own.row1 hI.or
    have hI' := hI.m
    rw [List.take_length] at hI'
    have xk : Sta K 0 w wk := (Sta.of_ext n1.ext).trans hI'.sta
    obtain ⟨u1, u2⟩ := uniq_names (ha.lg.here.fld hk)
    have hel : ∀ i, i < t.elems.length → t.elems[i]? = some (t.elems.getD i anyT) := fun i hi => by rw [List.getD_eq_getElem?_getD, List.getElem?_eq_getElem hi]; rfl
    have hsz : ∀ i, i < t.elems.length → (t.elems.getD i anyT).name.size ≤ 268435456 := fun i hi => by
      have := wts_mem (List.mem_of_getElem? (hel i hi))
      have := wt_name (t.elems.getD i anyT)
      omega
    refine zst ?_
    refine WU.stp rfl rfl rfl (stp_call rfl (c_NewStruct a1 a2 t.elems.length c1 t.elems.length c2 vb (fun i => (t.elems.getD i anyT).name) vv (fun i => (t.elems.getD i anyT).emb) (pt pc) (pth t.n) wk (hx.prp.sta xk hx.gN) (fun i hi => by
            obtain ⟨g, cs', k1, _, _, k3, k4⟩ := hr1 i hi
            exact ⟨g, cs', k1, k3, k4⟩) (fun i hi => (hI.var i _ hi hi (hel i hi)).2) (fun i hi => ⟨⟨_, rfl⟩, fun _ => ⟨pc, px, rfl, Has.sta xk hpk, pth_ne _⟩⟩) (fun i hi => u1 i _ (hel i hi)) (pth_nodot _)
            (fun i j hij hj heq => u2 i j _ _ hij (hel i (by omega)) (hel j hj) heq) (fun i hi => by rw [pth_size]; have := hsz i hi; omega) (by omega) (Nat.le_refl _))) ?_
    rintro _ w2 ⟨b2, fa', fc', rfl, hfa, hge2, hh2, x2⟩
    refine zst ?_
    have hge : w1.heap.size ≤ b2 := by have := hI'.sta.size; omega
    have hsz1 := n1.ext.size
    have hnone : s'.g b2 = none := hI'.bi.fresh hge2
    have hni : ¬ isIf t := by
      rintro (h | h)
      · omega
      · omega
    have hI2 := hI.ext x2
    refine fin1 (.inl rfl) rfl rfl ⟨s'.set b2 t, new, (((hI'.ext x2).set hge hnone hh2.lt hni).before n1.ext).le (by omega), .struct t b2 fa' fc' a2 c2 vb vv tg hk (fun i e he => ?_) (fun i e he => ?_) (by omega) hh2 (fun i hi => ?_) (fun i hi => ?_) (Gs.set_same ..), _, _, rfl⟩
    · exact ((hI2.rt i e (List.getElem?_eq_some_iff.1 he).1 he).le (Gs.gle_set hnone).le).mono fun d _ hd => by omega
    · have hi := (List.getElem?_eq_some_iff.1 he).1
      obtain ⟨k1, k2⟩ := hI2.var i e hi hi he
      refine ⟨by omega, ?_, ?_⟩
      · show VarV w2 (vb i) ((s'.set b2 t).pk t.n) e.name (vv i) 6 e.emb
        rw [show (s'.set b2 t).pk t.n = pt pc from by rw [← hpc]; exact congrFun hI'.gle.pk _]
        exact k2
      · show (t.elems.getD i anyT).tag = e.tag
        rw [List.getD_eq_getElem?_getD, he]; rfl
    · obtain ⟨g, cs', k1, k2, _, k3, k4⟩ := hr1 i hi
      rw [hfa (by rw [k1]; simp)]
      exact ⟨g, cs', k1, by omega, k3.ext' x2, k4⟩
    · obtain ⟨g, cs', k1, k2, _, k3, k4⟩ := hr2 i hi
      exact ⟨g, cs', k1, by omega, k3.ext' x2, k4⟩
end Go.Proofs.YtelmnkfdpnkpoaaGreatDoor
namespace Go.Proofs.YtelmnkfdpnkpoaaGreatDoor
open Go Go.Kd
set_option maxRecDepth 100000

theorem Sta.bel {K : Cfg} {c : Nat} {w0 w w' : World} (h : Sta K c w0 w) (x : RowKit.Below w0.heap.size w w') : Sta K c w0 w' :=
  ⟨x.os.trans h.os, x.tape.trans h.tape, x.output.trans h.output, Nat.le_trans h.size x.size, fun d hd ha => (x.block d ha).trans (h.old d hd ha), fun d cs t fz hd ht ha => by
    rw [x.block d (Array.getElem?_eq_some_iff.1 ha).1]; exact h.new d cs t fz hd ht ha, fun d o hd ha ho => by
    rw [x.block d (Array.getElem?_eq_some_iff.1 ha).1]; exact h.oth d o hd ha ho⟩
/-- only signatures, rows of functions, and what is new, have turned -/
def SgF (w w' : World) : Prop := ∀ d cs t, Has w d (.cells cs t (0, 0)) → t ≠ tSG → t ≠ tFN → w'.heap[d]? = w.heap[d]?
theorem Made.chg {K : Cfg} {s1 s2 : Gs} {w1 w2 w3 : World} {bb : Nat} {made n1 : List Nat} {m : Nat} (h : Made K s1 w1 bb made m s2 n1 w2) (x : RowKit.Below w1.heap.size w2 w3) (hs : SgF w2 w3) (hr : ∀ v t, RT K s2 w2 s2.sl v t → RT K s2 w3 s2.sl v t) : Made K s1 w1 bb made m s2 n1 w3 := by
  have hk : ∀ d cs t, Has w2 d (.cells cs t (0, 0)) → t ≠ tSG → t ≠ tFN → Has w3 d (.cells cs t (0, 0)) := fun d cs t h1 h2 h3 => ⟨(hs d cs t h1 h2 h3).trans h1.at_⟩
  refine ⟨h.gle, h.sta.bel x, h.bi.keep x.size (fun d cs t hd ht => (by rcases ht with rfl | ⟨rfl, rfl⟩ | rfl | rfl <;> exact hs _ _ _ ⟨hd⟩ (by decide) (by decide))) hr, h.len, fun b u hu => ?_, fun d hd => (h.sn d hd).imp id fun h => ⟨h.1, Nat.lt_of_lt_of_le h.2 x.size⟩⟩
  rcases h.gn b u hu with k | ⟨k1, k2, k3⟩
  · exact .inl k
  · have key : ∀ ts, IfT w2 b ts → IfT w3 b ts := fun ts ⟨ma, mn, mc, ea, en, ec, h⟩ => ⟨ma, mn, mc, ea, en, ec, hk _ _ _ h (by decide) (by decide)⟩
    refine .inr ⟨k1, Nat.lt_of_lt_of_le k2 x.size, fun hi => ⟨(k3 hi).1, ?_⟩⟩
    rcases (k3 hi).2 with h | ⟨⟨tb, v, h1, h2, a, c, tb', h3, h4, h5⟩, h6⟩
    · exact .inl (key _ h)
    · exact .inr ⟨⟨tb, v, key _ h1, hk _ _ _ h2 (by decide) (by decide), a, c, tb', h3, fun i hi => by
        obtain ⟨b, cs, k1, k2, k3⟩ := h4 i hi
        exact ⟨b, cs, k1, hk _ _ _ k2 (by decide) (by decide), k3⟩, hk _ _ _ h5 (by decide) (by decide)⟩, h6⟩
abbrev tFU : Nat := 173
/-- methods and embedded types -/
def rkI (pv : Value) (c : Nat) : RowK := ⟨tFU, fun e v => #[.int .i64 0, pv, .string e.name, v, .bool false, .bool false], tFN, tTY, fun _ vv i => vv (c + i), c, rfl, rfl, by decide, by decide, by decide⟩
def sbOf : Value → Nat
  | .iface _ (.pointer (some a)) => a.block
  | _ => 0
/-- signatures without a receiver -/
def SigN (w wk : World) (l : List Ty) (k : Nat) (vv : Nat → Value) : Prop := ∀ (i : Nat) e, i < k → l[i]? = some e → ∃ sb ps rs : Nat × Option Addr, vv i = .iface tSP (pt sb.1) ∧ w.heap.size ≤ sb.1 ∧ Has wk sb.1 (.cells #[.pointer none, .pointer none, .pointer ps.2, .pointer rs.2, .bool e.vr] tSG)

/-- an interface type has been made -/
theorem iface_done {D : List De} {K : Cfg} {i : Nat} {s s' : Gs} {w1 wk w' : World} {bb c : Nat} {made new : List Nat} {t : Ty} {vp ve : Value} {vb : Nat → Nat} {vv : Nat → Value} {pc b : Nat} {ma ea : Option Addr} {mc ec : Nat}
    (hk : t.kind = 9) (hc : t.count = c) (hcl : c ≤ t.elems.length) (hx : Ctx D K i s w1 bb made) (hpc : s.pk t.n = pt pc)
    (hI : GI (rkI (pt pc) c) K s w1 bb made t.elems t.elems.length c (t.elems.length - c) vp ve s' new vb vv wk) (hvp : vp = .slice ma c mc) (hve : ve = .slice ea (t.elems.length - c) ec) (hbg : wk.heap.size ≤ b)
    (hr : (c = 0 ∧ t.elems.length - c = 0 ∧ (∃ tb v, Has w' b (.cells (ifc none 0 0 none 0 0 (pt tb)) tIF) ∧ Has w' tb (.cells #[.bool false, .slice none 0 0, v, .bool false] tTS) ∧ AllT w' v) ∧ Ext wk w') ∨
       (¬ (c = 0 ∧ t.elems.length - c = 0) ∧ Has w' b (.cells (ifc ma c mc ea (t.elems.length - c) ec (.pointer none)) tIF) ∧ ∃ (w2 : World) (σ : List Nat), Sta K 3 wk w2 ∧ (∀ d, d < wk.heap.size → (∀ i, i < c → d ≠ sbOf (vv i)) → w2.heap[d]? = wk.heap[d]?) ∧ Oth w2 w' b ma ∧ σ.Perm (List.range c) ∧
        RowP w' 102 ma c (fun i => vb (σ.getD i 0)))) (hsg : SigN w1 wk t.elems c vv) :
    Made K s w1 bb made (wts t.elems) s' new w' ∧ RT K (s'.set b t) w' (fun d => w1.heap.size ≤ d) (.iface 79 (pt b)) t ∧ Fresh w' b t ∧ s'.g b = none := by
  have hm := hI.m
  rw [List.take_length] at hm
  have hnone : s'.g b = none := hm.bi.fresh hbg
  have hsz := hm.sta.size
  have hcn : t.count.toNat = c := by omega
  rcases hr with ⟨h1, h2, ⟨tb, v, k1, k2, k3⟩, x⟩ | ⟨h0, hb', w2, σ, x2, hd2, ho, hσ, hrow⟩
  · have hnil : t.elems = [] := List.eq_nil_of_length_eq_zero (by omega)
    refine ⟨hm.ext x, .iface t b none 0 none 0 (fun _ => 0) (fun _ => anyT) (fun _ => .nilIface) (fun _ => .nilIface) hk (fun i hi => by omega) (fun i hi => by omega) (by rw [hcn, h1]; exact .refl _) (fun i e he => by rw [hnil] at he; simp at he) (by omega) ⟨pt tb, by rw [hcn, h1, hnil]; exact k1⟩ (fun i hi => by omega) (fun i hi => by rw [hnil] at hi; simp at hi) (Gs.set_same ..), .tse k1 k2 k3 (.inr hnil), hnone⟩
  · have hsbk : ∀ i, i < c → ∃ e, t.elems[i]? = some e ∧ vv i = .iface tSP (pt (sbOf (vv i))) ∧ w1.heap.size ≤ sbOf (vv i) ∧ ∃ cs, Has wk (sbOf (vv i)) (.cells cs tSG) := fun i hi => by
      have he := List.getElem?_eq_getElem (show i < t.elems.length by omega)
      obtain ⟨sb, ps, rs, g1, g2, g3⟩ := hsg i _ hi he
      rw [g1]
      exact ⟨_, he, rfl, g2, _, g3⟩
    have hma : ∀ a, ma = some a → w1.heap.size ≤ a.block ∧ a.block < wk.heap.size ∧ vp.ownBlock = some a.block := fun a ha => by
      have : vp.ownBlock = some a.block := by rw [hvp, ha]; rfl
      exact ⟨(hI.op.lt _ this).1, (hI.op.lt _ this).2, this⟩
    have hbel : RowKit.Below w1.heap.size wk w' := ⟨ho.os.trans x2.os, ho.tape.trans x2.tape, ho.output.trans x2.output, Nat.le_trans x2.size ho.size, fun d hd => by
      rw [ho.oth d (by have := x2.size; omega) (by omega) fun a ha => by have := (hma a ha).1; omega]
      exact hd2 d (by omega) fun i hi => by obtain ⟨_, _, _, h, _⟩ := hsbk i hi; omega⟩
    have hsgf : SgF wk w' := fun d cs t hd ht1 ht2 => by
      rw [ho.oth d (by have := x2.size; have := hd.lt; omega) (by have := hd.lt; omega) fun a ha e => Own.ne (el := tFN) hI.op hd ht2 _ (hma a ha).2.2 e.symm]
      exact hd2 d hd.lt fun i hi e => by
        obtain ⟨_, _, _, _, cs', h⟩ := hsbk i hi
        subst e
        have := hd.at_.symm.trans h.at_
        simp at this
        exact ht1 this.2
    have mv : ∀ {v : Value} {e : Ty}, RT K s' wk (fun d => w1.heap.size ≤ d ∧ vp.ownBlock ≠ some d ∧ ve.ownBlock ≠ some d) v e → RT K (s'.set b t) w' (fun d => w1.heap.size ≤ d) v e := fun h => by
      have h1 := (h.mono (q := fun d => (w1.heap.size ≤ d ∧ vp.ownBlock ≠ some d) ∧ d < wk.heap.size) fun d hd hp => ⟨⟨hp.1, hp.2.1⟩, hd⟩).sta x2 (by omega)
      have h2 := h1.same (w' := w') fun d hd => ho.oth d (by have := x2.size; omega) (by omega) fun a ha e => hd.1.2 (by rw [(hma a ha).2.2, e])
      exact (h2.le (Gs.gle_set hnone).le).mono fun d _ hd => hd.1.1
    have hσlen : σ.length = c := by rw [hσ.length_eq, List.length_range]
    have hσlt : ∀ i, i < c → σ.getD i 0 < c := fun i hi => by
      rw [List.getD_eq_getElem?_getD, List.getElem?_eq_getElem (by omega)]
      exact List.mem_range.1 (hσ.mem_iff.1 (List.getElem_mem (by omega)))
    have hel : ∀ i, i < t.elems.length → t.elems[i]? = some (t.elems.getD i anyT) := fun i hi => by rw [List.getD_eq_getElem?_getD, List.getElem?_eq_getElem hi]; rfl
    refine ⟨hm.chg hbel hsgf (fun v u hr => ((((hr.mono (q := fun d => s'.sl d ∧ d < wk.heap.size) fun d hd hp => ⟨hp, hd⟩).sta x2 (by omega)).same (w' := w') fun d hd => ho.oth d (by have := x2.size; omega) (by omega) fun a ha e => (hI.so d hd.1).1 (by rw [(hma a ha).2.2, e])).mono fun d _ hd => hd.1)), .iface t b ma mc ea ec (fun i => vb (σ.getD i 0)) (fun i => t.elems.getD (σ.getD i 0) anyT) (fun i => vv (σ.getD i 0)) (fun i => vv (c + i)) hk (fun i hi => ?_) (fun i hi => ?_) ?_ (fun i e he => ?_) (by omega) ⟨.pointer none, by rw [hcn]; exact hb'⟩ (fun i hi => ?_) (fun i hi => ?_) (Gs.set_same ..), .inl ⟨_, _, _, _, _, _, hb'⟩, hnone⟩
    · have hl := hσlt i (by omega)
      exact mv (hI.rt _ _ (by omega) (hel _ (by omega)))
    · have hl := hσlt i (by omega)
      obtain ⟨k1, k2⟩ := hI.var (σ.getD i 0) _ (by omega) (show σ.getD i 0 < c from hl) (hel _ (by omega))
      refine ⟨pt pc, .inl ?_, by omega, ⟨(hsgf _ _ _ k2 (by show tFU ≠ tSG; decide) (by show tFU ≠ tFN; decide)).trans k2.at_⟩⟩
      show pt pc = (s'.set b t).pk t.n
      rw [← hpc]; exact (congrFun hm.gle.pk _).symm
    · rw [hcn]
      have h1 : (List.range c).map (fun i => t.elems.getD (σ.getD i 0) anyT) = σ.map fun j => t.elems.getD j anyT := by
        apply List.ext_getElem?
        intro i
        rw [List.getElem?_map, List.getElem?_map]
        by_cases hi : i < c
        · rw [List.getElem?_range hi, List.getElem?_eq_getElem (show i < σ.length by omega)]
          simp only [Option.map_some]
          rw [List.getD_eq_getElem?_getD (l := σ), List.getElem?_eq_getElem (show i < σ.length by omega)]
          rfl
        · rw [List.getElem?_eq_none (by simpa using hi), List.getElem?_eq_none (by omega)]; rfl
      have h2 : (List.range c).map (fun j => t.elems.getD j anyT) = t.elems.take c := by
        apply List.ext_getElem?
        intro i
        rw [List.getElem?_map]
        by_cases hi : i < c
        · rw [List.getElem?_range hi, List.getElem?_take_of_lt hi, hel i (by omega)]; rfl
        · rw [List.getElem?_eq_none (by simpa using hi), List.getElem?_eq_none (by simp; omega)]; rfl
      rw [h1, ← h2]
      exact hσ.map _
    · rw [hcn] at he
      exact mv (hI.rt _ e (List.getElem?_eq_some_iff.1 he).1 he)
    · rw [hcn] at hi
      obtain ⟨g, cs, k1, k2, k3⟩ := hrow i hi
      exact ⟨g, cs, k1, by have := (hma _ k1).1; simpa using this, k2, k3⟩
    · rw [hcn] at hi
      obtain ⟨a', cp', k1, k2⟩ := Own.row1 hI.or
      rw [hve] at k1
      cases k1
      obtain ⟨g, cs, q1, q2, q3, q4, q5⟩ := k2 i hi
      refine ⟨g, cs, q1, q2, ?_, ⟨(hsgf _ _ _ q4 (by show tTY ≠ tSG; decide) (by show tTY ≠ tFN; decide)).trans q4.at_⟩, q5⟩
      have := hx.bi.nbL
      omega
/-- .. and put into the builder's list -/
theorem Made.pushIf {K : Cfg} {s1 s2 : Gs} {w1 w2 w3 : World} {bb : Nat} {made n1 : List Nat} {m : Nat} (h : Made K s1 w1 bb made m s2 n1 w2) {b : Nat} {t : Ty} (hn : s2.g b = none) (hb : w1.heap.size ≤ b) (hb' : b < w2.heap.size) (hf : Fresh w2 b t)
    (hp : BI K ((s2.set b t).clo w1.heap.size w2.heap.size) w3 bb ((made ++ n1) ++ [b]) ∧ Sta K 0 w2 w3) : Made K s1 w1 bb made (m + 1) ((s2.set b t).clo w1.heap.size w2.heap.size) (n1 ++ [b]) w3 :=
  ⟨h.gle.trans ((Gs.gle_set hn).trans (Gs.gle_seal ..)), h.sta.trans hp.2, by rw [← List.append_assoc]; exact hp.1, by rw [List.length_append, List.length_singleton]; have := h.len; omega, fun c u hc => by
    replace hc : (if c = b then some t else s2.g c) = some u := hc
    by_cases hcb : c = b
    · subst hcb
      simp only [if_true, Option.some.injEq] at hc
      subst hc
      exact .inr ⟨hb, Nat.lt_of_lt_of_le hb' hp.2.size, fun _ => ⟨List.mem_append_right _ (List.mem_singleton_self _), hf.sta0 hp.2⟩⟩
    · simp only [hcb, if_false] at hc
      rcases h.gn c u hc with k | ⟨k1, k2, k3⟩
      · exact .inl k
      · exact .inr ⟨k1, Nat.lt_of_lt_of_le k2 hp.2.size, fun hi => ⟨List.mem_append_left _ (k3 hi).1, (k3 hi).2.sta0 hp.2⟩⟩, fun d hd => by
    have hs2 := hp.2.size
    have hs1 := h.sta.size
    rcases hd with hd | hd
    · exact (h.sn d hd).imp id fun h => ⟨h.1, Nat.lt_of_lt_of_le h.2 hs2⟩
    · exact .inr (by omega)⟩
def psOf (w : World) (b i : Nat) : Value := match w.heap[b]? with
  | some (.cells cs _ _) => cs.getD i .nilIface
  | _ => .nilIface
end Go.Proofs.YtelmnkfdpnkpoaaGreatDoor
namespace Go.Proofs.YtelmnkfdpnkpoaaGreatDoor
open Go Go.Kd
set_option maxRecDepth 100000

set_option maxHeartbeats 6000000 in
theorem typ_iface (D : List De) (K : Cfg) (i : Nat) (t : Ty) (hk : t.kind = 9) (ih : ∀ e, wt e < wt t → TypC D K i e) : TypC D K i t := by
  intro s w bb made p cs hx ha hb
  replace hb : wt t + made.length ≤ 268435456 := hb
  obtain ⟨a, cp, rfl, hv⟩ := ha.open
  obtain ⟨v, hs⟩ := ha.sh
  have hcap := hv.cap
  have hn0 := hs.shape.n0 (by rw [hk]; simp [limitN])
  have hn1 := hs.shape.n1 (by rw [hk]; simp [limitN])
  rw [hk] at hn1
  have hn2 : t.n < 2 := by simpa [limitN] using hn1
  have hc0 := hs.shape.c0 (.inr hk)
  have hc1 := hs.shape.c1 (.inr hk)
  obtain ⟨c, hc⟩ := Int.eq_ofNat_of_zero_le hc0
  have hcl : c ≤ t.elems.length := by omega
  obtain ⟨m, hm⟩ := Int.eq_ofNat_of_zero_le hn0
  have hm2 : m < 2 := by omega
  have hwt := wt_eq t
  have hlen := wts_len t.elems
  obtain ⟨na, nl, nc, vm, hbb, how, hnm⟩ := hx.bi.ex
  obtain ⟨pc, px, hpc, hpk⟩ := hx.bi.pkg t.n (by omega)
  have pkc : ∀ (W : World) (u : Value), Has W bb (.cells #[s.pk 0, s.pk 1, .slice na nl nc, s.er, u] tBU) → W.cell? ⟨bb, m, none⟩ = some (pt pc) := fun W u h => by
    rw [← hpc, hm]
    match m, hm2 with
    | 0, _ => exact cell_of h rfl
    | 1, _ => exact cell_of h rfl
  have hl : tyc t a cp = tyl 9 m c t.vr (.slice a t.elems.length cp) t.name t.tag t.emb := by unfold tyc; rw [hk, hm, hc]
  rw [hl]
  refine W.enter (args := [pt bb, .agg (tyl 9 m c t.vr (.slice a t.elems.length cp) t.name t.tag t.emb).toArray]) Tryz.func69 rfl Tryz.ntmps69 rfl rfl ?_
  refine zst ?_
  refine WU.stp rfl rfl rfl (by first | exact stp_box rfl rfl | exact stp_box1 rfl rfl) ?_
  rintro _ w1 ⟨b1, rfl, n1⟩
  have ib1 := n1.has
  refine zst ?_
  have hnb1 : K.nb < w1.heap.size := Nat.lt_of_lt_of_le hx.bi.nbL n1.ext.size
  refine W.loop (σ := Nat × Value) (fun (k, vp) => [(144, .int .i64 k), (143, .int .i64 c), (142, .slice a c cp), (9, vp), (3, pt b1), (0, pt bb)])
    (fun (k, vp) D' wk => D' = [] ∧ k ≤ c ∧ Has wk b1 (.cells (tyl 9 m c t.vr (.slice a t.elems.length cp) t.name t.tag t.emb).toArray 26) ∧ ∃ s' new vb vv, GI (rkI (pt pc) c) K s w1 bb made t.elems k k 0 vp (.slice none 0 0) s' new vb vv wk ∧ SigN w1 wk t.elems k vv)
    (fun (k, _) => c - k) (0, .slice none 0 0)
    ⟨rfl, Nat.zero_le _, ib1, s, [], fun _ => 0, fun _ => .nilIface, GI.nil _ _ (hx.bi.ext n1.ext) _ _, fun i e hi => by omega⟩
    (by exact sub_of ⟨rfl, rfl, rfl, rfl, rfl, rfl, trivial⟩) ?_
  rintro ⟨k, vp⟩ D' wk ⟨rfl, hkc, ibk, s', new, vb, vv, hI, hSg⟩
  refine zst ?_
  by_cases hlt : k < c
  · rw [show decide ((k : Int) < (c : Int)) = true by simpa using hlt]
    have hltl : k < t.elems.length := by omega
    have he := List.getElem?_eq_getElem hltl
    generalize t.elems[k] = e at he
    obtain ⟨b, o, a3, c3, rfl, hpb, hcc, hae⟩ := ha.el hv he
    have hm' := hI.m
    have xk : Sta K 0 w wk := (Sta.of_ext n1.ext).trans hm'.sta
    have hck : Cells wk b (o + k * 8) (tyc e a3 c3) := Cells.sameB (xk.old b (ha.p b hpb).1 (ha.p b hpb).2) hcc
    have hwe := take_wts he
    have hwl := take_le (l := t.elems) (k + 1)
    have hln := hm'.len
    refine zst ?_
    refine WU.yld rfl rfl rfl (yld_load_cells rfl hck) ?_
    refine WU.stp rfl rfl rfl stp_alloc ?_
    rintro _ w2 ⟨b2, rfl, n2⟩
    refine WU.stp0 rfl rfl (stp_store_whole rfl rfl rfl rfl) ?_
    rintro _ w3 u3
    have x3 : Ext wk w3 := (u3.ofNew n2).ext
    have ib3 := ibk.ext' x3
    have ie3 := u3.has
    obtain ⟨vm3, hbb3⟩ := Has.staB (xk.ext x3) hbb
    obtain ⟨F, hFd⟩ : ∃ F : World → Prop, ∀ W, F W ↔ (Has W b2 (.cells (tyc e a3 c3).toArray 26) ∧ Has W b1 (.cells (tyl 9 m c t.vr (.slice (some ⟨b, o, none⟩) t.elems.length cp) t.name t.tag t.emb).toArray 26) ∧ ∃ u, Has W bb (.cells #[s.pk 0, s.pk 1, .slice na nl nc, s.er, u] tBU)) := ⟨fun W => (Has W b2 (.cells (tyc e a3 c3).toArray 26) ∧ Has W b1 (.cells (tyl 9 m c t.vr (.slice (some ⟨b, o, none⟩) t.elems.length cp) t.name t.tag t.emb).toArray 26) ∧ ∃ u, Has W bb (.cells #[s.pk 0, s.pk 1, .slice na nl nc, s.er, u] tBU)), fun _ => Iff.rfl⟩
    refine zst ?_
    refine W.regR (R := fun a b => F a → F b) (fun _ h => h) (fun _ _ _ h k x => k (h x)) [(0, .q), (1, .q), (2, .q), (3, .q), (4, .q), (5, .q), (6, .q), (7, .q), (8, .q), (9, .q), (10, .q), (11, .q), (12, .l), (13, .l), (14, .l), (15, .l), (16, .q)] (by kernel_rfl) (by kernel_rfl) rfl ?_
    intro w4 x4 _
    have hF : F w4 := (hFd _).2 ⟨ie3.ext' x4, ib3.ext' x4, vm3, hbb3.ext' x4⟩
    have x34 := x3.trans x4
    (repeat (first
        | refine WR.nilk ?_
        | refine WR.nil ?_
        | refine WR.yld (fun _ h => h) rfl rfl rfl rfl (fun w' hx => by obtain ⟨i1, i0, u, i2⟩ := (hFd _).1 (hx hF); first | exact zyl | (exact by first | exact yld_indexAddr_arr (i := m) rfl rfl (by omega) | exact yld_load_c rfl (pkc _ u i2)) | exact yld_indexAddr_arr rfl rfl (by omega)) ?_
        | refine WR.skip rfl rfl rfl rfl ?_))
    have hx4 : Ctx D K i s' w4 bb (made ++ new) := ((hx.ext n1.ext).made hm').ext x34
    have hek : e.kind = 8 := hs.shape.mth hk k e he (by rw [hc]; omega)
    have hwte := wt_el he
    refine WR.stp rfl rfl rfl rfl (stp_call rfl (c_signature D K i e hek (fun j e' he' => ih e' (Nat.lt_trans (wt_el he') hwte)) s' w4 bb (made ++ new) p _ none hx4 ((hae.sta xk).ext x34) (by rw [List.length_append]; show _ ≤ 268435456; omega))) ?_
    rintro r w5 ⟨eb, ps5, rs5, s2, new2, rfl, m5, rt5, hge5, hh5⟩
    have hF : F w5 := by
      obtain ⟨i1, i0, u, i2⟩ := (hFd _).1 hF
      exact (hFd _).2 ⟨Has.sta m5.sta i1, Has.sta m5.sta i0, Has.staB m5.sta i2⟩
    refine ⟨fun _ => hF, ?_⟩
    (repeat (first
        | refine WR.nilk ?_
        | refine WR.nil ?_
        | refine WR.yld (fun _ h => h) rfl rfl rfl rfl (fun w' hx => by obtain ⟨i1, i0, u, i2⟩ := (hFd _).1 (hx hF); first | exact zyl | (exact by first | exact yld_indexAddr_arr (i := m) rfl rfl (by omega) | exact yld_load_c rfl (pkc _ u i2)) | exact yld_indexAddr_arr rfl rfl (by omega)) ?_
        | refine WR.skip rfl rfl rfl rfl ?_))
    refine WR.stp rfl rfl rfl rfl (stp_call rfl (c_NewFunc 0 (some ⟨pc, 0, none⟩) e.name eb w5)) ?_
    rintro _ w6 ⟨b6, rfl, n6⟩
    have hF : F w6 := by
      obtain ⟨i1, i0, u, i2⟩ := (hFd _).1 hF
      exact (hFd _).2 ⟨i1.ext' n6.ext, i0.ext' n6.ext, u, i2.ext' n6.ext⟩
    refine ⟨fun _ => hF, ?_⟩
    (repeat (first
        | refine WR.nilk ?_
        | refine WR.nil ?_
        | refine WR.yld (fun _ h => h) rfl rfl rfl rfl (fun w' hx => by obtain ⟨i1, i0, u, i2⟩ := (hFd _).1 (hx hF); first | exact zyl | (exact by first | exact yld_indexAddr_arr (i := m) rfl rfl (by omega) | exact yld_load_c rfl (pkc _ u i2)) | exact yld_indexAddr_arr rfl rfl (by omega)) ?_
        | refine WR.skip rfl rfl rfl rfl ?_))
    have hI6 := hI.next he x34 (show wts e.elems ≤ wt e by rw [wt_eq e]; omega) m5 rt5 n6 (fun i hi => absurd hi (Nat.not_lt_zero _))
    refine WR.stp rfl rfl rfl rfl (stp_buildSlice rfl rfl rfl rfl rfl) ?_
    rintro _ w7 ⟨b7, rfl, n7⟩
    have hF : F w7 := by
      obtain ⟨i1, i0, u, i2⟩ := (hFd _).1 hF
      exact (hFd _).2 ⟨i1.ext' n7.ext, i0.ext' n7.ext, u, i2.ext' n7.ext⟩
    refine ⟨fun _ => hF, ?_⟩
    (repeat (first
        | refine WR.nilk ?_
        | refine WR.nil ?_
        | refine WR.yld (fun _ h => h) rfl rfl rfl rfl (fun w' hx => by obtain ⟨i1, i0, u, i2⟩ := (hFd _).1 (hx hF); first | exact zyl | (exact by first | exact yld_indexAddr_arr (i := m) rfl rfl (by omega) | exact yld_load_c rfl (pkc _ u i2)) | exact yld_indexAddr_arr rfl rfl (by omega)) ?_
        | refine WR.skip rfl rfl rfl rfl ?_))
    have hI7 := hI6.ext n7.ext
    have hsz1 := n1.ext.size
    refine WR.stp rfl rfl rfl rfl (stp_append1 (el := tFN) rfl rfl hI7.op (Cells.has n7.has) rfl rfl (by omega) (by simp [Value.oneCell']) (by rw [List.length_map, List.length_range]; omega) (Nat.le_trans hI7.m.sta.size (Nat.le_refl _))) ?_
    rintro v' w8 ⟨o8, a8, g8⟩
    have hF : F w8 := by
      obtain ⟨i1, i0, u, i2⟩ := (hFd _).1 hF
      exact (hFd _).2 ⟨Has.app (el := tFN) a8 hI7.op i1 (by decide), Has.app (el := tFN) a8 hI7.op i0 (by decide), u, Has.app (el := tFN) a8 hI7.op i2 (by decide)⟩
    refine ⟨fun _ => hF, ?_⟩
    (repeat (first
        | refine WR.nilk ?_
        | refine WR.nil ?_
        | refine WR.yld (fun _ h => h) rfl rfl rfl rfl (fun w' hx => by obtain ⟨i1, i0, u, i2⟩ := (hFd _).1 (hx hF); first | exact zyl | (exact by first | exact yld_indexAddr_arr (i := m) rfl rfl (by omega) | exact yld_load_c rfl (pkc _ u i2)) | exact yld_indexAddr_arr rfl rfl (by omega)) ?_
        | refine WR.skip rfl rfl rfl rfl ?_))
    have hI8 := hI7.app1 a8 (by rw [put_same]; exact o8) g8 (by omega) hnb1
    obtain ⟨je8, jb8, _, _⟩ := (hFd _).1 hF
    have hSg8 : SigN w1 w8 t.elems (k + 1) (put vv k (.iface tSP (pt eb))) := fun j e' hj he' => by
      have mv : ∀ {sb : Nat} {cs : Array Value}, Has w5 sb (.cells cs tSG) → Has w8 sb (.cells cs tSG) := fun h => Has.app (el := tFN) a8 hI7.op ((h.ext' n6.ext).ext' n7.ext) (by decide)
      by_cases hjk : j = k
      · subst hjk
        rw [he] at he'
        cases he'
        rw [put_same]
        exact ⟨(eb, none), (0, ps5), (0, rs5), rfl, by have := hm'.sta.size; have := x34.size; show _ ≤ eb; omega, mv hh5⟩
      · rw [put_lt vv _ (by omega)]
        obtain ⟨sb, ps, rs, q1, q2, q3⟩ := hSg j e' (by omega) he'
        exact ⟨sb, ps, rs, q1, q2, mv (Has.sta0 m5.sta (by decide) (by decide) (q3.ext' x34))⟩
    refine zst ?_
    exact ⟨(k + 1, v'), by show c - (k + 1) < c - k; omega, ⟨rfl, by omega, jb8, s2, new ++ new2, put vb k b6, put vv k (.iface tSP (pt eb)), hI8, hSg8⟩, sub_of ⟨rfl, rfl, rfl, rfl, rfl, rfl, trivial⟩⟩
  · rw [show decide ((k : Int) < (c : Int)) = false by simpa using hlt]
    obtain rfl : k = c := by omega
    refine zst ?_
    refine W.loop (σ := Nat × Value) (fun (j, ve) => [(171, .int .i64 j), (170, .int .i64 (t.elems.length - k : Nat)), (169, .slice (past a k cp 8) (t.elems.length - k) (cp - k)), (9, vp), (12, ve), (3, pt b1), (0, pt bb)])
      (fun (j, ve) D' wk => D' = [] ∧ j ≤ t.elems.length - k ∧ Has wk b1 (.cells (tyl 9 m k t.vr (.slice a t.elems.length cp) t.name t.tag t.emb).toArray 26) ∧ ∃ s' new vb vv, GI (rkI (pt pc) k) K s w1 bb made t.elems (k + j) k j vp ve s' new vb vv wk ∧ SigN w1 wk t.elems k vv)
      (fun (j, _) => t.elems.length - k - j) (0, .slice none 0 0)
      ⟨rfl, Nat.zero_le _, ibk, s', new, vb, vv, hI, hSg⟩
      (by exact sub_of ⟨rfl, rfl, rfl, rfl, rfl, rfl, rfl, trivial⟩) ?_
    clear hI hSg ibk s' new vb vv
    rintro ⟨j, ve⟩ D' wl ⟨rfl, hjl, ibl, s', new, vb, vv, hI, hSg⟩
    refine zst ?_
    by_cases hltj : j < t.elems.length - k
    · rw [show decide ((j : Int) < ((t.elems.length - k : Nat) : Int)) = true by simpa using hltj]
      have hltl : k + j < t.elems.length := by omega
      have he := List.getElem?_eq_getElem hltl
      generalize t.elems[k + j] = e at he
      obtain ⟨b, o, a3, c3, rfl, hpb, hcc, hae⟩ := ha.el hv he
      have hm' := hI.m
      have xl : Sta K 0 w wl := (Sta.of_ext n1.ext).trans hm'.sta
      have hck : Cells wl b (o + k * 8 + j * 8) (tyc e a3 c3) := by
        rw [show o + k * 8 + j * 8 = o + (k + j) * 8 from by omega]
        exact Cells.sameB (xl.old b (ha.p b hpb).1 (ha.p b hpb).2) hcc
      have hpast : past (some ⟨b, o, none⟩) k cp 8 = some ⟨b, o + k * 8, none⟩ := by
        unfold past
        rw [if_neg (by omega)]
        exact congrArg some (Addr.add_mid ..)
      rw [hpast]
      have hwe := take_wts he
      have hwl := take_le (l := t.elems) (k + j + 1)
      have hln := hm'.len
      refine zst ?_
      refine WU.yld rfl rfl rfl (yld_load_cells rfl hck) ?_
      refine WU.stp rfl rfl rfl stp_alloc ?_
      rintro _ w2 ⟨b2, rfl, n2⟩
      refine WU.stp0 rfl rfl (stp_store_whole rfl rfl rfl rfl) ?_
      rintro _ w3 u3
      have x3 : Ext wl w3 := (u3.ofNew n2).ext
      have ib3 := ibl.ext' x3
      have ie3 := u3.has
      refine zst ?_
      refine WU.stp rfl rfl rfl (stp_call rfl (ih e (wt_el he) s' w3 bb (made ++ new) p _ (((hx.ext n1.ext).made hm').ext x3) ((hae.sta xl).ext x3) (by rw [List.length_append]; show _ ≤ 268435456; omega))) ?_
      rintro r w5 ⟨s2, new2, m5, rt5, T, eb, rfl⟩
      have hI5 := hI.next0 he x3 (Nat.le_refl _) m5 rt5 (fun i hi => put_lt vv _ (by omega)) (Nat.le_add_right _ _)
      refine WU.stp rfl rfl rfl (stp_buildSlice rfl rfl rfl rfl rfl) ?_
      rintro _ w7 ⟨b7, rfl, n7⟩
      have hI7 := hI5.ext n7.ext
      have hsz1 := n1.ext.size
      refine WU.stp rfl rfl rfl (stp_append1 (el := tTY) rfl rfl hI7.or (Cells.has n7.has) rfl rfl (by omega) (by simp [Value.oneCell']) (by rw [List.length_map, List.length_range]; omega) (Nat.le_trans hI7.m.sta.size (Nat.le_refl _))) ?_
      rintro v' w8 ⟨o8, a8, g8⟩
      have hI8 := hI7.app2 a8 (by show Own _ _ _ _ _ (_ ++ [[put vv (k + j) _ (k + j)]]); rw [put_same]; exact o8) g8 hnb1
      have jb8 := Has.app (el := tTY) a8 hI7.or ((Has.sta m5.sta ib3).ext' n7.ext) (by decide)
      have hSg8 : SigN w1 w8 t.elems k (put vv (k + j) (.iface T (pt eb))) := fun q e' hq he' => by
        rw [put_lt vv _ (by omega)]
        obtain ⟨sb, ps, rs, q1, q2, q3⟩ := hSg q e' hq he'
        exact ⟨sb, ps, rs, q1, q2, Has.app (el := tTY) a8 hI7.or ((Has.sta0 m5.sta (by decide) (by decide) (q3.ext' x3)).ext' n7.ext) (by decide)⟩
      refine zst ?_
      rw [← hpast]
      exact ⟨(j + 1, v'), by show t.elems.length - k - (j + 1) < t.elems.length - k - j; omega, ⟨rfl, by omega, jb8, s2, new ++ new2, vb, put vv (k + j) (.iface T (pt eb)), hI8, hSg8⟩, sub_of ⟨rfl, rfl, rfl, rfl, rfl, rfl, rfl, trivial⟩⟩
    · rw [show decide ((j : Int) < ((t.elems.length - k : Nat) : Int)) = false by simpa using hltj]
      obtain rfl : j = t.elems.length - k := by omega
      rw [show k + (t.elems.length - k) = t.elems.length from by omega] at hI
      obtain ⟨ma, mc, rfl, hr1⟩ := Own.row1 hI.op
      obtain ⟨ea, ec, rfl, hr2⟩ := Own.row1 hI.or
      have hI' := hI.m
      rw [List.take_length] at hI'
      have xl : Sta K 0 w wl := (Sta.of_ext n1.ext).trans hI'.sta
      have hel : ∀ i, i < t.elems.length → t.elems[i]? = some (t.elems.getD i anyT) := fun i hi => by rw [List.getD_eq_getElem?_getD, List.getElem?_eq_getElem hi]; rfl
      have htk : ∀ i, i < k → (t.elems.take k)[i]? = some (t.elems.getD i anyT) := fun i hi => by rw [List.getElem?_take_of_lt hi]; exact hel i (by omega)
      have huq := ha.lg.here.unq hk
      rw [show t.count.toNat = k from by omega] at huq
      obtain ⟨u1, u2⟩ := uniq_names huq
      have hsb : ∀ i, i < k → vv i = .iface tSP (pt (sbOf (vv i))) ∧ w1.heap.size ≤ sbOf (vv i) ∧ SigP wl (sbOf (vv i)) (psOf wl (sbOf (vv i)) 2) (psOf wl (sbOf (vv i)) 3) (t.elems.getD i anyT).vr := fun i hi => by
        obtain ⟨sb, ps, rs, q1, q2, q3⟩ := hSg i _ hi (hel i (by omega))
        rw [q1]
        have hpo : ∀ x, psOf wl sb.1 x = (#[.pointer none, .pointer none, .pointer ps.2, .pointer rs.2, .bool (t.elems.getD i anyT).vr] : Array Value).getD x .nilIface := fun x => by unfold psOf; rw [q3.at_]
        refine ⟨rfl, q2, none, ?_⟩
        show Has wl sb.1 (.cells #[.pointer none, .pointer none, psOf wl sb.1 2, psOf wl sb.1 3, _] tSG)
        rw [hpo, hpo]
        exact q3
      have hfr : FRow wl k vb (fun _ => pt pc) (fun i => (t.elems.getD i anyT).name) (fun _ => pth t.n) (fun i => .iface tSP (pt (sbOf (vv i)))) := ⟨fun i hi => by
          have := (hI.var i _ (by omega) (show i < k from hi) (hel i (by omega))).2
          show FuncV wl (vb i) (pt pc) _ (.iface tSP (pt (sbOf (vv i))))
          rw [← (hsb i hi).1]
          exact this, fun i hi => ⟨⟨_, rfl⟩, fun _ => ⟨pc, px, rfl, Has.sta xl hpk, pth_ne _⟩⟩, fun i hi => (u1 i _ (htk i hi)).asc, fun i j hi hj heq => by
          have h1 := (idS_inj (u1 i _ (htk i hi)) (u1 j _ (htk j hj)) (pth_nodot _) (pth_nodot _) heq).1
          rcases Nat.lt_trichotomy i j with h | h | h
          · exact absurd (u2 i j _ _ h (htk i hi) (htk j hj) h1) (ha.lg.here.mth hk i _ (hel i (by omega)) (by omega))
          · exact h
          · exact absurd (u2 j i _ _ h (htk j hj) (htk i hi) h1.symm) (ha.lg.here.mth hk j _ (hel j (by omega)) (by omega))⟩
      have hNw := hx.bi.nbN
      refine zst ?_
      refine WU.stp rfl rfl rfl (stp_call rfl (c_NewInterfaceType K ma ea k mc (t.elems.length - k) ec vb (fun i => sbOf (vv i)) (fun _ => pt pc) (fun i => (t.elems.getD i anyT).name) (fun _ => pth t.n) (fun i => psOf wl (sbOf (vv i)) 2) (fun i => psOf wl (sbOf (vv i)) 3) (fun i => (t.elems.getD i anyT).vr) wl (hx.prp.sta xl hx.gN) hx.gN (fun a' ha' => by
                have h1 : (Value.slice ma k mc).ownBlock = some a'.block := by rw [ha']; rfl
                have h2 := hI.op.lt _ h1
                have := hx.gN
                exact ⟨by omega, h2.2⟩) (fun i hi => by
                obtain ⟨g, cs', q1, _, _, q3, q4⟩ := hr1 i hi
                exact ⟨g, cs', q1, q3, q4⟩) hfr (fun i hi => (hsb i hi).2.2) (fun i hi => by have := (hsb i hi).2.1; omega) (by omega))) ?_
      rintro _ w2 ⟨b, rfl, hbg, hblt, hr⟩
      obtain ⟨d1, d2, d3, d4⟩ := iface_done hk hc hcl (hx.ext n1.ext) hpc hI rfl rfl hbg hr hSg
      obtain ⟨na', nl', nc', vm', hbb2, how2, hnm2⟩ := d1.bi.ex
      have hNb := d1.bi.N
      have hln2 := d1.len
      refine zst ?_
      refine WU.stp rfl rfl rfl (stp_buildSlice rfl rfl rfl rfl rfl) ?_
      rintro _ w3 ⟨b3, rfl, n3⟩
      have hbb3 := hbb2.ext' n3.ext
      have how3 := how2.ext n3.ext
      refine WU.stp rfl rfl rfl (stp_append1 (el := tPI) rfl rfl how3 (Cells.has n3.has) rfl rfl (by omega) (by simp [Value.oneCell']) (by rw [List.length_map, List.length_append]; omega) (by have := hbb3.lt; omega)) ?_
      rintro v' w4 ⟨o4, a4, _⟩
      have hbb4 : Has w4 bb (.cells #[s'.pk 0, s'.pk 1, .slice na' nl' nc', s'.er, vm'] tBU) := App.keep a4 hbb3 (Own.ne how3 hbb3 (by decide))
      obtain ⟨sa, scp, hsh, _, _⟩ := o4.shape
      subst hsh
      refine zst ?_
      refine WU.stp0 rfl rfl (stp_store_cell rfl rfl rfl rfl) ?_
      rintro _ w5 u5
      refine zst ?_
      have hkb : Kno K ((s'.set b t).clo w1.heap.size w3.heap.size) w3 b := ⟨t, Gs.set_same .., .inl hk, by rw [hx.dk]; exact ⟨⟨i, v, hx.il, hs⟩, by show wt t ≤ 268435456; omega, ha.lg⟩, ((RT.ext n3.ext d2).le (Gs.gle_seal ..).le).mono fun d hd h => .inr ⟨h, hd⟩⟩
      have hpu := (((d1.bi.ext n3.ext).set (t := t) d4 (Nat.lt_of_lt_of_le hblt n3.ext.size)).clo w1.heap.size (Nat.le_refl _)).push (b := b) hkb hbb3 how3 (fun i u hu => by
        obtain ⟨cs, q1, q2, q3, q4⟩ := hnm2 i u hu
        exact ⟨cs, q1, q2, q3.ext' n3.ext, q4⟩) a4 o4 u5
      have hsz := d1.sta.size
      have hsz1 := n1.ext.size
      have hd3 : Fresh w3 b t := d3.sta0 (K := K) (.of_ext n3.ext)
      have dm := (d1.ext n3.ext).pushIf d4 (by have := hI'.sta.size; omega) (Nat.lt_of_lt_of_le hblt n3.ext.size) hd3 hpu
      exact fin1 (.inl rfl) rfl rfl ⟨_, _, (dm.before n1.ext).le (by omega), (((RT.ext n3.ext d2).sta hpu.2 (by omega)).le (Gs.gle_seal ..).le).mono fun d _ hd => Nat.le_trans hsz1 hd, _, _, rfl⟩
end Go.Proofs.YtelmnkfdpnkpoaaGreatDoor
namespace Go.Proofs.YtelmnkfdpnkpoaaGreatDoor
open Go Go.Kd
set_option maxRecDepth 100000

theorem typ_basic (D : List De) (K : Cfg) (i : Nat) (t : Ty) (hk : t.kind = 0) : TypC D K i t := by
  intro s w bb made p cs hx ha hb
  replace hb : wt t + made.length ≤ 268435456 := hb
  obtain ⟨a, cp, rfl, hv⟩ := ha.open
  obtain ⟨v, hs⟩ := ha.sh
  have hn0 := hs.shape.n0 (by rw [hk]; simp [limitN])
  have hn1 := hs.shape.n1 (by rw [hk]; simp [limitN])
  rw [hk] at hn1
  have hn2 : t.n < 22 := by simpa [limitN] using hn1
  have hl : tyc t a cp = tyl 0 t.n t.count t.vr (.slice a t.elems.length cp) t.name t.tag t.emb := by unfold tyc; rw [hk]
  rw [hl]
  refine W.enter (args := [pt bb, .agg (tyl 0 t.n t.count t.vr (.slice a t.elems.length cp) t.name t.tag t.emb).toArray]) Tryz.func69 rfl Tryz.ntmps69 rfl rfl ?_
  refine zst ?_
  refine WU.stp rfl rfl rfl (by first | exact stp_box rfl rfl | exact stp_box1 rfl rfl) ?_
  rintro _ w1 ⟨b1, rfl, n1⟩
  refine zst ?_
  refine WU.stp rfl rfl rfl (stp_call rfl (c_basic D K i s w1 bb made t (hx.ext n1.ext) hk hn0 hn2 (by omega) ⟨⟨i, v, hx.il, hs⟩, by show wt t ≤ 268435456; omega, ha.lg⟩)) ?_
  rintro r w2 hr
  refine zst ?_
  exact fin1 (.inl rfl) rfl rfl (hr.before n1.ext)
theorem c_typ (D : List De) (K : Cfg) (i : Nat) : ∀ (n : Nat) (t : Ty), wt t ≤ n → TypC D K i t := by
  intro n
  induction n with
  | zero => intro t ht; have := wt_pos t; omega
  | succ n ih =>
    intro t ht s w bb made p cs hx ha hb
    obtain ⟨v, hs⟩ := ha.sh
    have h0 := hs.shape.lo
    have h9 := hs.shape.hi
    have hel : ∀ (j : Nat) e, t.elems[j]? = some e → TypC D K i e := fun j e he => ih e (by have := wt_el he; omega)
    have key : TypC D K i t := by
      rcases (show t.kind = 0 ∨ t.kind = 1 ∨ t.kind = 2 ∨ t.kind = 3 ∨ t.kind = 4 ∨ t.kind = 5 ∨ t.kind = 6 ∨ t.kind = 7 ∨ t.kind = 8 ∨ t.kind = 9 by omega) with h | h | h | h | h | h | h | h | h | h
      · exact typ_basic D K i t h
      · exact typ_named D K i t h
      · exact typ_pointer D K i t h hel
      · exact typ_slice D K i t h hel
      · exact typ_array D K i t h hel
      · exact typ_map D K i t h hel
      · exact typ_chan D K i t h hel
      · exact typ_struct D K i t h hel
      · exact typ_func D K i t h hel
      · exact typ_iface D K i t h fun e he => ih e (by omega)
    exact key s w bb made p cs hx ha hb
theorem c_typ' (D : List De) (K : Cfg) (i : Nat) (t : Ty) : TypC D K i t := c_typ D K i _ t (Nat.le_refl _)
end Go.Proofs.YtelmnkfdpnkpoaaGreatDoor
namespace Go.Kd
variable {P : Program} {e : Env} {w : World} {d : Option Tmp} {ty t t2 : TypeId} {pos : String} {aft : Array Edge} {g : Option (Nat × Bool)} {x y z : Operand}
theorem run_call_or {f : FuncId} {fn : Go.Func} (hf : P.funcs[f]? = some fn) (hname : (fn.name == "runtime.NumGoroutine") = false) (hb : fn.body.isNone = true) (hn : Extern.findNext fn = none) (k : IntKind)
    (he : Extern.find fn = some (Extern.Atomic.update (Op.intBits .or) k false)) {a : Addr} {x y s : Int} {w : World} (hc : w.cell? a = some (.int k x)) (hz : w.frozen? a = false)
    (hs : (Op.intBits .or k x y).run P w = .ok (.int k s) w) :
    (callFunc f #[.pointer (some a), .int k y]).run P w = .ok (.value (.int k x)) (w.setCell a (.int k s)) := by
  rw [run_callFunc_extern hf hname hb hn he]
  change (Sem.run P (do
    let a' ← asAddr (.pointer (some a))
    let old ← Extern.Atomic.read (.int k) a'
    let new ← Op.intBits .or k (← asInt old) (← asInt (.int k y))
    store a' new .atomic
    pure (if false then new else old)) w).andThen _ = _
  simp [Extern.Atomic.read, asAddr, asInt, asIntOf, hc, hz, hs, run_store P w a (.int k s) .atomic rfl, Result.andThen]
theorem stp_callv {k : FuncId} {args : List Operand} {tys : Array TypeId} {vs : List Value} {v : Value} {w' : World} (ha : evs e args = some vs) (hr : (callFunc k vs.toArray).run P w = .ok (.value v) w') :
    Stp P e ⟨d, .call ⟨.value (.func k), args.toArray, tys⟩, ty, pos, aft, g⟩ w (fun v' w'' => v' = v ∧ w'' = w') := ⟨fun ρ hρ => by
  have hv : args.toArray.map ρ = vs.toArray := by rw [← evs_spec hρ args vs ha]; simp
  have h1 : ρ (.func k) = .func (.func k) #[] #[] := hρ _ _ rfl
  simp only [execOp, resolve, hv, h1, Deferred.ofValue, invoke, Sem.run_bind, Sem.run_pure, Result.andThen_ok, Array.append_empty, Array.empty_append]
  rw [hr]
  exact ⟨rfl, rfl⟩⟩
theorem Upd.setCell {w : World} {b i : Nat} {cs : Array Value} {t : TypeId} (h : Has w b (.cells cs t (0, 0))) (v : Value) : Upd w b (.cells (cs.setIfInBounds i v) t (0, 0)) (w.setCell ⟨b, i, none⟩ v) := by
  have hl := h.lt
  have hat := h.at_
  refine ⟨⟨?_⟩, fun c hc => ?_, ?_, rfl, rfl, rfl⟩
  · unfold World.setCell
    simp only
    rw [Array.getElem?_modify, if_pos rfl, hat]
    rfl
  · unfold World.setCell
    simp only
    rw [Array.getElem?_modify, if_neg (Ne.symm hc)]
  · unfold World.setCell
    simp
theorem Upd.trans {w w2 w3 : World} {b : Nat} {o o' : Obj} (h : Upd w b o w2) (k : Upd w2 b o' w3) : Upd w b o' w3 :=
  ⟨k.has, fun c hc => (k.oth c hc).trans (h.oth c hc), k.size.trans h.size, k.os.trans h.os, k.tape.trans h.tape, k.output.trans h.output⟩
theorem Has.frozen {w : World} {b i : Nat} {cs : Array Value} {t : TypeId} (h : Has w b (.cells cs t (0, 0))) : w.frozen? ⟨b, i, none⟩ = false := by
  unfold World.frozen?
  rw [h.at_]
  simp
/-- a call is put off -/
theorem WU.defer {n : Nat} {ops : List Oper} {Q : Post} {D : List Deferred} {rest : List Oper} {k : FuncId} {args : List Operand} {tys : Array TypeId} {vs : List Value} (ha : evs e args = some vs)
    (hk : WU P n ops Q rest ({ target := .fn (.func k) #[], args := vs.toArray } :: D) e w) : WU P n ops Q (⟨none, .defer ⟨.value (.func k), args.toArray, tys⟩, ty, pos, aft, none⟩ :: rest) D e w := ⟨fun a hfa => by
  unfold wpList
  rw [wn_spec (r := true) rfl hfa, if_pos rfl]
  left
  have hv : args.toArray.map a.eval = vs.toArray := by rw [← evs_spec hfa.ag args vs ha]; simp
  have h1 : a.eval (.func k) = .func (.func k) #[] #[] := hfa.ag _ _ rfl
  have he : (execOp a.eval ⟨none, .defer ⟨.value (.func k), args.toArray, tys⟩, ty, pos, aft, none⟩).run P w = .ok (.defer { target := .fn (.func k) #[], args := vs.toArray }) w := by
    simp only [execOp, resolve, hv, h1, Deferred.ofValue, Sem.run_bind, Sem.run_pure, Result.andThen_ok, Array.empty_append]
  unfold Oper.wp
  rw [he]
  exact hk.out _ ⟨hfa.size, by show _ :: a.defers = _; rw [hfa.defers], hfa.get⟩⟩
/-- a function that puts off one call -/
theorem W.enterD {k : Nat} {fn : Go.Func} {c : Code} {args : List Value} {w : World} {R : Value → World → Prop} {n : Nat} (hf : P.funcs[k]? = some fn) (hb : fn.body = some c)
    (hn : fn.ntmps = n) (hl : Nat.ble args.length n = true) {e : Env} (he : argO args = some e) (hres : fn.results = #[])
    (h : W P n c (fun x D _ w' => (x = .ret ∨ x = .normal) ∧ ∃ f ag fnf, D = [{ target := .fn (.func f) #[], args := ag }] ∧ P.funcs[f]? = some fnf ∧ (fnf.name == "runtime.NumGoroutine") = false ∧ fnf.body.isNone = false ∧
      CallsD P f ag .returning w' fun x u w'' => u = .returning ∧ ∃ v, x = .returned v ∧ R (.tuple #[]) w'') [] e w) : Calls P k args.toArray w (Ret R) := by
  refine calls_of_wp_defers hf hb (wp_mono ((argO_eq args e he ▸ h : W P n c _ [] (argE args 0) w).out { tmps := args.toArray ++ Array.replicate (fn.ntmps - args.toArray.size) undef, defers := [] } ⟨by have := Nat.le_of_ble_eq_true hl; simp; omega, rfl, fun i v hi => by
      obtain ⟨_, h2⟩ := argE_lk args 0 i v hi
      simp only [Nat.sub_zero] at h2
      have : i < args.length := (List.getElem?_eq_some_iff.1 h2).1
      rw [Array.getElem?_append_left (by simpa using this)]
      simpa using h2⟩) fun x a' w' hx => ?_)
  have fin : ∀ (a' : Act) D' e' f ag fnf, Fr n D' e' a' → D' = [{ target := .fn (.func f) #[], args := ag }] → P.funcs[f]? = some fnf → (fnf.name == "runtime.NumGoroutine") = false → fnf.body.isNone = false →
      (CallsD P f ag .returning w' fun x u w'' => u = .returning ∧ ∃ v, x = .returned v ∧ R (.tuple #[]) w'') → Leaves P fn a'.tmps (Ret R) a'.defers .returning w' := fun a' D' e' f ag fnf ha hD h1 h2 h3 h4 => by
    rw [ha.defers, hD]
    refine ⟨fun h => (by cases h), .func f, #[], f, ag, rfl, ?_, ?_⟩
    · simp only [invoke, callFunc, program, bind, Sem.bind, Sem.run, pure, h1, h2, h3, Bool.false_eq_true, if_false, Array.append_empty]
    · intro c cs hc
      obtain ⟨e2, u', w'', fr, hR, rest⟩ := h4 c cs hc
      obtain ⟨rfl, v, rfl, hR'⟩ := hR
      refine ⟨.returned v, .returning, w'', fr, ?_, rest⟩
      exact ⟨_, run_results (vs := []) ha (by rw [hres]; exact .nil), _, rfl, hR'⟩
  cases x with
  | normal => obtain ⟨D', e', ha, -, f, ag, fnf, h1, h2, h3, h4, h5⟩ := hx; exact fin _ D' e' f ag fnf ha h1 h2 h3 h4 h5
  | ret => obtain ⟨D', e', ha, -, f, ag, fnf, h1, h2, h3, h4, h5⟩ := hx; exact fin _ D' e' f ag fnf ha h1 h2 h3 h4 h5
  | panic ch => exact hx.elim
  | outgrown => exact hx.elim
  | exit id => obtain ⟨_, _, _, h, _⟩ := hx; rcases h with h | h <;> cases h
  | goto l => obtain ⟨_, _, _, h, _⟩ := hx; rcases h with h | h <;> cases h
end Go.Kd
namespace Go.Proofs.YtelmnkfdpnkpoaaGreatDoor
open Go Go.Kd
set_option maxRecDepth 100000

abbrev muLink : Go.Conc.Locks.MuLink := { lock := 101, unlock := 102, ilock := 138, iunlock := 139, lockSlow := 163, unlockSlow := 166, disable := 159, enable := 161, acquire := 162, relMerge := 164, cas32 := 160, add32 := 165, tMutex := 143, tIMutex := 141, tPMutex := 249, tPIMutex := 280, tPI32 := 282, tUP := 284, tNoCopy := 138, tU32 := 139 }
theorem muLib : Go.Conc.Locks.MuLib Tryz.prog muLink :=
  ⟨Tryz.func101, Tryz.func102, Tryz.func138, Tryz.func139, Tryz.func159, Tryz.func161, Tryz.func162, Tryz.func164, Tryz.func160, Tryz.func165,
   Tryz.underlying141, Tryz.runUnderlying141, Tryz.sizeOf141, Tryz.isAgg141, Tryz.zeroValue141, Tryz.underlying143, Tryz.runUnderlying143, Tryz.sizeOf143, Tryz.isAgg143, Tryz.zeroValue143, Tryz.underlying249, Tryz.runUnderlying249, Tryz.sizeOf249, Tryz.isAgg249, Tryz.zeroValue249,
   Tryz.underlying280, Tryz.runUnderlying280, Tryz.sizeOf280, Tryz.isAgg280, Tryz.zeroValue280, Tryz.underlying282, Tryz.runUnderlying282, Tryz.sizeOf282, Tryz.isAgg282, Tryz.zeroValue282, Tryz.underlying284, Tryz.runUnderlying284, Tryz.sizeOf284, Tryz.isAgg284, Tryz.zeroValue284,
   Tryz.underlying138, Tryz.runUnderlying138, Tryz.sizeOf138, Tryz.isAgg138, Tryz.zeroValue138, Tryz.underlying21, Tryz.runUnderlying21, Tryz.sizeOf21, Tryz.isAgg21, Tryz.zeroValue21, (by kernel_rfl)⟩

/-- a named type's cells -/
abbrev nmc (obj : Value) (nilOk : Bool) (mu st : Int) (rhs u ms : Value) : Array Value := #[.pointer none, obj, .bool nilOk, .int .i32 mu, .int .u32 0, .int .u32 st, rhs, u, .bool false, ms]
def NamV (w : World) (b : Nat) (obj u ms : Value) : Prop := Has w b (.cells (nmc obj false 0 15 u u ms) tNM)
theorem c_stateHas (b : Nat) (m : Int) (obj u ms : Value) (w : World) (h : NamV w b obj u ms) (hm : m = 3 ∨ m = 8) : Calls Tryz.prog 141 #[pt b, .int .u32 m] w (Ret fun r w' => r = .bool true ∧ w = w') := by
  have h' : Has w b (.cells (nmc obj false 0 15 u u ms) tNM) := h
  refine W.enter (args := [pt b, .int .u32 m]) Tryz.func141 rfl Tryz.ntmps141 rfl rfl ?_
  refine zst ?_
  refine WU.stp rfl rfl rfl (stp_callv rfl (run_call_load Tryz.func167 (by kernel_rfl) (by kernel_rfl) (by kernel_rfl) .u32 (by kernel_rfl) (cell_of h' (i := 5) rfl))) ?_
  rintro _ _ ⟨rfl, rfl⟩
  rcases hm with rfl | rfl
  · refine zst ?_
    refine WU.yld rfl rfl rfl (yld_and rfl rfl) ?_
    refine zst ?_
    exact fin1 (.inl rfl) rfl rfl ⟨rfl, rfl⟩
  · refine zst ?_
    refine WU.yld rfl rfl rfl (yld_and rfl rfl) ?_
    refine zst ?_
    exact fin1 (.inl rfl) rfl rfl ⟨rfl, rfl⟩
end Go.Proofs.YtelmnkfdpnkpoaaGreatDoor
namespace Go.Proofs.YtelmnkfdpnkpoaaGreatDoor
open Go Go.Kd
set_option maxRecDepth 100000

abbrev tNP : Nat := 85
theorem run_or07 (P : Program) (w : World) : (Op.intBits .or .u32 0 7).run P w = .ok (.int .u32 7) w := by simp [Op.intBits]; decide
theorem run_or78 (P : Program) (w : World) : (Op.intBits .or .u32 7 8).run P w = .ok (.int .u32 15) w := by simp [Op.intBits]; decide
theorem c_setState (b : Nat) (m x s : Int) (obj rhs u ms : Value) (n0 : Bool) (mu : Int) (w : World) (h : Has w b (.cells (nmc obj n0 mu x rhs u ms) tNM)) (hs : ∀ w, (Op.intBits .or .u32 x m).run Tryz.prog w = .ok (.int .u32 s) w) :
    Calls Tryz.prog 103 #[pt b, .int .u32 m] w (Ret fun _ w' => Upd w b (.cells (nmc obj n0 mu s rhs u ms) tNM) w') := by
  refine W.enter (args := [pt b, .int .u32 m]) Tryz.func103 rfl Tryz.ntmps103 rfl rfl ?_
  refine zst ?_
  refine WU.stp rfl rfl rfl (stp_callv rfl (run_call_or Tryz.func140 (by kernel_rfl) (by kernel_rfl) (by kernel_rfl) .u32 (by kernel_rfl) (cell_of h (i := 5) rfl) (Has.frozen h) (hs w))) ?_
  rintro _ _ ⟨rfl, rfl⟩
  refine zst ?_
  have hu := Upd.setCell (i := 5) h (.int .u32 s)
  exact fin0 (.inr rfl) rfl hu
theorem c_asNamed_no (T : Nat) (v : Value) (w : World) (h1 : Nat.beq T tAL = false) (h2 : Nat.beq T tNP = false) : Calls Tryz.prog 89 #[.iface T v] w (Ret fun r w' => r = .pointer none ∧ w = w') := by
  refine W.enter (args := [.iface T v]) Tryz.func89 rfl Tryz.ntmps89 rfl rfl ?_
  refine zst ?_
  refine WU.stp rfl rfl rfl (stp_call rfl (c_Unalias_no T v w h1)) ?_
  rintro _ _ ⟨rfl, rfl⟩
  refine zst ?_
  exact fin1 (.inl rfl) rfl rfl ⟨rfl, rfl⟩
theorem c_Unalias_nil (w : World) : Calls Tryz.prog 116 #[.nilIface] w (Ret fun r w' => r = .nilIface ∧ w = w') := by
  refine W.enter (args := [.nilIface]) Tryz.func116 rfl Tryz.ntmps116 rfl rfl ?_
  refine zst ?_
  exact fin1 (.inl rfl) rfl rfl ⟨rfl, rfl⟩
theorem c_asNamed_nil (w : World) : Calls Tryz.prog 89 #[.nilIface] w (Ret fun r w' => r = .pointer none ∧ w = w') := by
  refine W.enter (args := [.nilIface]) Tryz.func89 rfl Tryz.ntmps89 rfl rfl ?_
  refine zst ?_
  refine WU.stp rfl rfl rfl (stp_call rfl (c_Unalias_nil w)) ?_
  rintro _ _ ⟨rfl, rfl⟩
  refine zst ?_
  exact fin1 (.inl rfl) rfl rfl ⟨rfl, rfl⟩
set_option maxHeartbeats 2000000 in
theorem c_SetUnderlying (b ub T : Nat) (obj ms : Value) (n0 : Bool) (w : World) (h : Has w b (.cells (nmc obj n0 0 0 .nilIface .nilIface ms) tNM)) (h1 : Nat.beq T tAL = false) (h2 : Nat.beq T tNP = false) :
    Calls Tryz.prog 70 #[pt b, .iface T (pt ub)] w (Ret fun _ w' => Upd w b (.cells (nmc obj false 0 15 (.iface T (pt ub)) (.iface T (pt ub)) ms) tNM) w') := by
  refine W.enterD (args := [pt b, .iface T (pt ub)]) Tryz.func70 rfl Tryz.ntmps70 rfl rfl rfl ?_
  refine zst ?_
  refine WU.stp rfl rfl rfl (stp_call rfl (c_asNamed_no T _ w h1 h2)) ?_
  rintro _ _ ⟨rfl, rfl⟩
  refine zst ?_
  have hlock : Calls Tryz.prog 101 #[.pointer (some ⟨b, 3, none⟩)] w (Ret fun _ w' => w' = w.setCell ⟨b, 3, none⟩ (.int .i32 1)) :=
    (Go.MuLone.lock_free muLib ⟨b, 3, none⟩ w (cell_of h rfl) (Has.frozen h)).mono fun e w' ⟨he, hw⟩ => ⟨_, he, hw⟩
  refine WU.stp rfl rfl rfl (stp_call rfl hlock) ?_
  rintro v w1 hw1
  have u1 := Upd.setCell (i := 3) h (.int .i32 1)
  rw [← hw1] at u1
  have k1 : Has w1 b (.cells (nmc obj n0 1 0 .nilIface .nilIface ms) tNM) := u1.has
  refine zst ?_
  refine WU.defer rfl ?_
  refine zst ?_
  refine WU.stp0 rfl rfl (stp_store_cell rfl rfl rfl rfl) ?_
  rintro _ w2 u2
  have k2 := u2.has
  refine zst ?_
  refine WU.stp0 rfl rfl (stp_store_cell rfl rfl rfl rfl) ?_
  rintro _ w3 u3
  have k3 : Has w3 b (.cells (nmc obj false 1 0 (.iface T (pt ub)) .nilIface ms) tNM) := u3.has
  refine zst ?_
  refine WU.stp rfl rfl rfl (stp_call rfl (c_setState b 7 0 7 _ _ _ _ _ _ w3 k3 (run_or07 _))) ?_
  rintro _ w4 u4
  have k4 := u4.has
  refine zst ?_
  refine WU.stp0 rfl rfl (stp_store_cell rfl rfl rfl rfl) ?_
  rintro _ w5 u5
  have k5 : Has w5 b (.cells (nmc obj false 1 7 (.iface T (pt ub)) (.iface T (pt ub)) ms) tNM) := u5.has
  refine zst ?_
  refine WU.stp rfl rfl rfl (stp_call rfl (c_setState b 8 7 15 _ _ _ _ _ _ w5 k5 (run_or78 _))) ?_
  rintro _ w6 u6
  have k6 := u6.has
  refine zst ?_
  refine ⟨.inr rfl, 102, _, _, rfl, Tryz.func102, by kernel_rfl, by kernel_rfl, ?_⟩
  intro c cs hc
  obtain ⟨e2, u', w'', fr, ⟨rfl, rfl, rfl⟩, rest⟩ := Go.MuLone.unlock_deferred muLib ⟨b, 3, none⟩ .returning w6 (cell_of k6 rfl) (Has.frozen k6) c cs hc
  refine ⟨_, _, _, fr, ⟨rfl, _, rfl, ?_⟩, rest⟩
  have u7 := Upd.setCell (i := 3) k6 (.int .i32 0)
  exact (((((u1.trans u2).trans u3).trans u4).trans u5).trans u6).trans u7

/-! ### Underlying types of what is not named -/
theorem c_unpack (b : Nat) (obj u ms : Value) (w : World) (h : NamV w b obj u ms) : Calls Tryz.prog 106 #[pt b] w (Ret fun r w' => r = pt b ∧ w = w') := by
  refine W.enter (args := [pt b]) Tryz.func106 rfl Tryz.ntmps106 rfl rfl ?_
  refine zst ?_
  refine WU.stp rfl rfl rfl (stp_call rfl (c_stateHas b 3 obj u ms w h (.inl rfl))) ?_
  rintro _ _ ⟨rfl, rfl⟩
  refine zst ?_
  exact fin1 (.inl rfl) rfl rfl ⟨rfl, rfl⟩
theorem c_rhs (b : Nat) (obj u ms : Value) (w : World) (h : NamV w b obj u ms) : Calls Tryz.prog 238 #[pt b] w (Ret fun r w' => r = u ∧ w = w') := by
  have h' : Has w b (.cells (nmc obj false 0 15 u u ms) tNM) := h
  refine W.enter (args := [pt b]) Tryz.func238 rfl Tryz.ntmps238 rfl rfl ?_
  refine zst ?_
  exact fin1 (.inl rfl) rfl rfl ⟨rfl, rfl⟩
theorem c_Named_Underlying (b T ub : Nat) (obj ms : Value) (w : World) (h : NamV w b obj (.iface T (pt ub)) ms) : Calls Tryz.prog 236 #[pt b] w (Ret fun r w' => r = .iface T (pt ub) ∧ w = w') := by
  have h' : Has w b (.cells (nmc obj false 0 15 (.iface T (pt ub)) (.iface T (pt ub)) ms) tNM) := h
  refine W.enter (args := [pt b]) Tryz.func236 rfl Tryz.ntmps236 rfl rfl ?_
  refine zst ?_
  refine WU.stp rfl rfl rfl (stp_call rfl (c_unpack b _ _ _ w h)) ?_
  rintro _ _ ⟨rfl, rfl⟩
  refine zst ?_
  refine WU.stp rfl rfl rfl (stp_call rfl (c_rhs b _ _ _ w h)) ?_
  rintro _ _ ⟨rfl, rfl⟩
  refine zst ?_
  refine WU.stp rfl rfl rfl (stp_call rfl (c_stateHas b 8 _ _ _ w h (.inr rfl))) ?_
  rintro _ _ ⟨rfl, rfl⟩
  refine zst ?_
  exact fin1 (.inl rfl) rfl rfl ⟨rfl, rfl⟩
end Go.Proofs.YtelmnkfdpnkpoaaGreatDoor
namespace Go.Proofs.YtelmnkfdpnkpoaaGreatDoor
open Go Go.Kd
set_option maxRecDepth 100000

abbrev tAB : Nat := 247
def TnV (w : World) (ob : Nat) (pk : Value) (nm : ByteArray) (v : Value) : Prop := Has w ob (.cells #[.int .i64 0, pk, .string nm, v] tTN)
theorem c_newNamed (ob : Nat) (pk : Value) (nm : ByteArray) (w : World) (h : TnV w ob pk nm .nilIface) :
    Calls Tryz.prog 84 #[.pointer none, pt ob, .nilIface, .slice none 0 0] w (Ret fun r w' => ∃ b w1, r = pt b ∧ New w b (.cells (nmc (pt ob) false 0 0 .nilIface .nilIface (.slice none 0 0)) tNM) w1 ∧ Upd w1 ob (.cells #[.int .i64 0, pk, .string nm, .iface tNP (pt b)] tTN) w') := by
  have h' : Has w ob (.cells #[.int .i64 0, pk, .string nm, .nilIface] tTN) := h
  refine W.enter (args := [.pointer none, pt ob, .nilIface, .slice none 0 0]) Tryz.func84 rfl Tryz.ntmps84 rfl rfl ?_
  refine zst ?_
  refine WU.stp rfl rfl rfl (by first | exact stp_box rfl rfl | exact stp_box1 rfl rfl) ?_
  rintro _ w1 ⟨b1, rfl, n1⟩
  have h1 := h'.ext' n1.ext
  refine zst ?_
  refine WU.stp0 rfl rfl (stp_store_cell rfl rfl rfl rfl) ?_
  rintro _ w2 u2
  refine zst ?_
  exact fin1 (.inl rfl) rfl rfl ⟨b1, w1, rfl, n1, u2⟩
theorem c_NewNamed (ob : Nat) (pk : Value) (nm : ByteArray) (w : World) (h : TnV w ob pk nm .nilIface) :
    Calls Tryz.prog 66 #[pt ob, .nilIface, .slice none 0 0] w (Ret fun r w' => ∃ b, r = pt b ∧ w.heap.size ≤ b ∧ Has w' b (.cells (nmc (pt ob) true 0 0 .nilIface .nilIface (.slice none 0 0)) tNM) ∧ TnV w' ob pk nm (.iface tNP (pt b)) ∧ RowKit.Below ob w w') := by
  have h' : Has w ob (.cells #[.int .i64 0, pk, .string nm, .nilIface] tTN) := h
  refine W.enter (args := [pt ob, .nilIface, .slice none 0 0]) Tryz.func66 rfl Tryz.ntmps66 rfl rfl ?_
  refine zst ?_
  refine WU.stp rfl rfl rfl (stp_call rfl (c_asNamed_nil w)) ?_
  rintro _ _ ⟨rfl, rfl⟩
  refine zst ?_
  refine WU.stp rfl rfl rfl (stp_call rfl (c_newNamed ob pk nm w h)) ?_
  rintro _ w2 ⟨b, w1, rfl, n1, u2⟩
  have hbn := n1.num
  have hne : b ≠ ob := by have := h'.lt; omega
  have h2 : Has w2 b (.cells (nmc (pt ob) false 0 0 .nilIface .nilIface (.slice none 0 0)) tNM) := ⟨(u2.oth b hne).trans n1.has.at_⟩
  refine zst ?_
  refine WU.stp0 rfl rfl (stp_store_cell rfl rfl rfl rfl) ?_
  rintro _ w3 u3
  refine zst ?_
  have h3 : Has w3 b (.cells (nmc (pt ob) true 0 0 .nilIface .nilIface (.slice none 0 0)) tNM) := u3.has
  refine fin1 (.inl rfl) rfl rfl ⟨b, rfl, Nat.le_of_eq hbn.symm, h3, ⟨(u3.oth ob (Ne.symm hne)).trans u2.has.at_⟩, ?_⟩
  have hlt := h'.lt
  exact bel_upd (bel_upd (n1.ext.below.mono (Nat.le_of_lt hlt)) u2 (Nat.le_refl _)) u3 (by omega)
theorem c_name (bb : Nat) (p0 p1 ns er md : Value) (e : De) (a1 : Option Addr) (c1 : Nat) (a2 : Option Addr) (c2 : Nat) (pa : Nat → Option Addr) (w : World) (h0 : p0 = .pointer (pa 0)) (h1 : p1 = .pointer (pa 1)) (h : Has w bb (.cells #[p0, p1, ns, er, md] tBU)) (hp : e.pkg = 0 ∨ e.pkg = 1) :
    Calls Tryz.prog 67 #[pt bb, .agg (del e a1 c1 a2 c2).toArray] w (Ret fun r w' => ∃ ob, r = pt ob ∧ w.heap.size ≤ ob ∧ TnV w' ob (.pointer (pa e.pkg.toNat)) e.name .nilIface ∧ Ext w w') := by
  subst h0 h1
  obtain ⟨m, hm⟩ : ∃ m : Nat, e.pkg = m ∧ m < 2 := by
    rcases hp with h | h
    · exact ⟨0, h, by omega⟩
    · exact ⟨1, h, by omega⟩
  have pkc : ∀ W, Has W bb (.cells #[.pointer (pa 0), .pointer (pa 1), ns, er, md] tBU) → W.cell? ⟨bb, m, none⟩ = some (.pointer (pa m)) := fun W h => by
    match m, hm.2 with
    | 0, _ => exact cell_of h rfl
    | 1, _ => exact cell_of h rfl
  unfold del
  rw [hm.1, Int.toNat_natCast]
  refine W.enter (args := [pt bb, .agg #[.string e.name, .int .i64 m, .bool e.al, .int .i64 e.ty.kind, .int .i64 e.ty.n, .int .i64 e.ty.count, .bool e.ty.vr, .slice a1 e.ty.elems.length c1, .string e.ty.name, .string e.ty.tag, .bool e.ty.emb, .slice a2 e.ms.length c2]]) Tryz.func67 rfl Tryz.ntmps67 rfl rfl ?_
  refine zst ?_
  refine WU.stp rfl rfl rfl (by first | exact stp_box rfl rfl | exact stp_box1 rfl rfl) ?_
  rintro _ w1 ⟨b1, rfl, n1⟩
  refine zst ?_
  have ib1 := n1.has
  have hb1 := h.ext' n1.ext
  refine W.regD [(0, .q), (1, .q), (2, .q), (3, .q), (4, .q), (5, .q), (6, .q), (7, .q), (8, .q), (9, .l), (10, .q)] (by kernel_rfl) (by kernel_rfl) rfl ?_
  intro w2 x2 _
  have ib2 := ib1.ext' x2
  have hb2 := hb1.ext' x2
  have hm2 := hm.2
  have hcc := pkc w2 hb2
  refine zsd ?_
  refine WD.yld rfl rfl rfl rfl (yld_indexAddr_arr (i := m) rfl rfl (by omega)) ?_
  refine zsd ?_
  refine WD.yld rfl rfl rfl rfl (yld_load_c rfl hcc) ?_
  refine zsd ?_
  refine WD.stp rfl rfl rfl rfl (stp_call rfl (c_NewTypeName 0 (pa m) e.name w2)) ?_
  rintro _ w3 ⟨ob, rfl, n3⟩
  refine ⟨by first | assumption | exact Ext.rfl' _ | infer_instance, ?_⟩
  refine zsd ?_
  refine zst ?_
  have hge : w.heap.size ≤ ob := by have := n3.num; have := n1.ext.size; have := x2.size; omega
  exact fin1 (.inl rfl) rfl rfl ⟨ob, rfl, hge, n3.has, (n1.ext.trans x2).trans n3.ext⟩
end Go.Proofs.YtelmnkfdpnkpoaaGreatDoor
namespace Go.Proofs.YtelmnkfdpnkpoaaGreatDoor
open Go Go.Kd

/-- how deep interfaces embed others: less than k -/
def imR (D : List De) : Nat → Ty → Prop
  | 0, _ => False
  | k + 1, t => (underT D t).kind = 9 → ∀ (i : Nat) e, (underT D t).elems[i]? = some e → ¬ (i : Int) < (underT D t).count → imR D k e
theorem imR_succ {D : List De} : ∀ {k : Nat} {t : Ty}, imR D k t → imR D (k + 1) t
  | _ + 1, _, h => fun h9 i e he hc => imR_succ (h h9 i e he hc)
theorem imR_le {D : List De} {k m : Nat} {t : Ty} (hk : k ≤ m) (h : imR D k t) : imR D m t := by
  induction hk with
  | refl => exact h
  | step _ ih => exact imR_succ ih
theorem imR_congr {D : List De} {t u : Ty} (he : underT D t = underT D u) : ∀ {k : Nat}, imR D k t → imR D k u
  | k + 1, h => fun h9 i e hi hc => by rw [← he] at h9 hi hc; exact h h9 i e hi hc
theorem bound_list {α : Type} {P : Nat → Nat → α → Prop} (hm : ∀ i k m a, k ≤ m → P i k a → P i m a) (l : List α) (h : ∀ (i : Nat) a, l[i]? = some a → ∃ k, P i k a) : ∃ k, ∀ (i : Nat) a, l[i]? = some a → P i k a := by
  have key : ∀ n, ∃ k, ∀ (i : Nat) a, i < n → l[i]? = some a → P i k a := by
    intro n
    induction n with
    | zero => exact ⟨0, fun i a hi => by omega⟩
    | succ n ih =>
      obtain ⟨k, hk⟩ := ih
      cases hn : l[n]? with
      | none => exact ⟨k, fun i a hi ha => by
          by_cases hin : i = n
          · subst hin; rw [hn] at ha; cases ha
          · exact hk i a (by omega) ha⟩
      | some b =>
        obtain ⟨m, hb⟩ := h n b hn
        refine ⟨max k m, fun i a hi ha => ?_⟩
        by_cases hin : i = n
        · subst hin
          rw [hn] at ha
          cases ha
          exact hm _ m _ _ (Nat.le_max_right ..) hb
        · exact hm _ k _ _ (Nat.le_max_left ..) (hk i a (by omega) ha)
  obtain ⟨k, hk⟩ := key l.length
  exact ⟨k, fun i a ha => hk i a (List.getElem?_eq_some_iff.1 ha).1 ha⟩
theorem IM.rank {D : List De} {t : Ty} {ms : List Mt} (h : IM D t ms) : ∃ k, imR D k t := by
  induction h with
  | no t hk => exact ⟨1, fun h9 => absurd h9 hk⟩
  | yes t L h9 hL h1 h2 ih =>
    obtain ⟨k, hk⟩ := bound_list (P := fun (i : Nat) k e => ¬ (i : Int) < (underT D t).count → imR D k e) (fun i k m a hkm h hc => imR_le hkm (h hc)) (underT D t).elems fun i e he => by
      by_cases hc : (i : Int) < (underT D t).count
      · exact ⟨0, fun h => absurd hc h⟩
      · have hlt : i < L.length := by rw [hL]; exact (List.getElem?_eq_some_iff.1 he).1
        obtain ⟨k, hk⟩ := ih i e _ he (List.getElem?_eq_getElem hlt) hc
        exact ⟨k, fun _ => hk⟩
    exact ⟨k + 1, fun _ i e he hc => hk i e he hc⟩
/-- the rank -/
def rk (D : List De) (t : Ty) (k : Nat) : Prop := imR D k t ∧ ∀ j, j < k → ¬ imR D j t
theorem rk_exists {D : List De} {t : Ty} : ∀ {k : Nat}, imR D k t → ∃ j, j ≤ k ∧ rk D t j := by
  intro k
  induction k with
  | zero => exact fun h => h.elim
  | succ k ih =>
    intro h
    by_cases hk : imR D k t
    · obtain ⟨j, h1, h2⟩ := ih hk
      exact ⟨j, by omega, h2⟩
    · exact ⟨k + 1, Nat.le_refl _, h, fun j hj hi => hk (imR_le (by omega) hi)⟩

/-! ### Methods, merged -/
theorem addM_fold : ∀ {l : List Mt} {out : List Mt}, (l.map keyM).Nodup → l.foldl addM out = out ++ l.filter fun m => decide (keyM m ∉ out.map keyM)
  | [], out, _ => by simp
  | a :: l, out, h => by
    simp only [List.map_cons, List.nodup_cons] at h
    rw [List.foldl_cons]
    rcases addM_spec out a with ⟨h1, h2⟩ | ⟨h1, h2⟩
    · rw [h1, addM_fold h.2, List.filter_cons_of_neg (by simpa using h2)]
    · rw [h1, addM_fold h.2, List.filter_cons_of_pos (by simpa using h2), List.append_assoc]
      congr 1
      show [a] ++ _ = a :: _
      rw [List.singleton_append]
      congr 1
      apply List.filter_congr
      intro m hm
      have hne : keyM m ≠ keyM a := fun e => h.1 (by rw [← e]; exact List.mem_map_of_mem hm)
      simp only [List.map_append, List.map_cons, List.map_nil, List.mem_append, List.mem_singleton, decide_eq_decide, not_or]
      exact ⟨fun h => h.1, fun h => ⟨h, hne⟩⟩
theorem addM_perm {l l' out out' : List Mt} (hl : (l.map keyM).Nodup) (hp : l'.Perm l) (ho : out'.Perm out) : (l'.foldl addM out').Perm (l.foldl addM out) := by
  rw [addM_fold hl, addM_fold ((hp.map keyM).nodup_iff.2 hl)]
  have hf : ∀ m : Mt, decide (keyM m ∉ out'.map keyM) = decide (keyM m ∉ out.map keyM) := fun m => by
    rw [decide_eq_decide, (ho.map keyM).mem_iff]
  rw [List.filter_congr fun m _ => hf m]
  exact ho.append (hp.filter _)
def mergeE (L : List (List Mt)) (out : List Mt) : List Mt := L.foldl (fun o l => l.foldl addM o) out
theorem mergeM_hi (c : Int) : ∀ (i : Nat) (L : List (List Mt)) (out : List Mt), c ≤ i → mergeM c i L out = mergeE L out
  | _, [], _, _ => rfl
  | i, l :: L, out, h => by
    unfold mergeM
    rw [if_neg (by omega), mergeM_hi c (i + 1) L _ (by omega)]
    rfl
theorem mergeM_lo (c : Int) (L2 : List (List Mt)) : ∀ (L1 : List (List Mt)) (i : Nat) (out : List Mt), ((i + L1.length : Nat) : Int) ≤ c → mergeM c i (L1 ++ L2) out = mergeM c (i + L1.length) L2 (out ++ L1.flatten)
  | [], _, _, _ => by simp
  | l :: L, i, out, h => by
    simp only [List.length_cons] at h
    rw [List.cons_append]
    show mergeM c (i + 1) (L ++ L2) (if (i : Int) < c then out ++ l else l.foldl addM out) = _
    rw [if_pos (by omega), mergeM_lo c L2 L (i + 1) _ (by omega)]
    simp only [List.length_cons, List.flatten_cons, List.append_assoc]
    rw [show i + 1 + L.length = i + (L.length + 1) from by omega]
theorem flatten_single {α β : Type} (f : α → β) : ∀ l : List α, (l.map fun a => [f a]).flatten = l.map f
  | [] => rfl
  | a :: l => by simp [flatten_single f l]
/-- the methods that a type's text declares -/
def ownM (u : Ty) (c : Nat) : List Mt := (u.elems.take c).map fun e => ⟨e.name, u.n, e⟩
theorem IM.of {D : List De} {t u : Ty} {c : Nat} (hu : underT D t = u) (h9 : u.kind = 9) (hc : u.count = c) (hcl : c ≤ u.elems.length) (L : List (List Mt)) (hL : L.length = u.elems.length - c)
    (h : ∀ (j : Nat) e l, u.elems[c + j]? = some e → L[j]? = some l → IM D e l) : IM D t (mergeE L (ownM u c)) := by
  subst hu
  have h1 := IM.yes (D := D) t (((underT D t).elems.take c).map (fun e => [⟨e.name, (underT D t).n, e⟩]) ++ L) h9 (by simp; omega) (fun i e l he hl hi => by
      have hic : i < c := by omega
      rw [List.getElem?_append_left (by simp; omega), List.getElem?_map, List.getElem?_take_of_lt hic, he] at hl
      exact (Option.some.inj hl).symm) (fun i e l he hl hi => by
      have hic : c ≤ i := by omega
      obtain ⟨j, rfl⟩ := Nat.le.dest hic
      rw [List.getElem?_append_right (by simp; omega)] at hl
      have hlen : (((underT D t).elems.take c).map (fun e => ([⟨e.name, (underT D t).n, e⟩] : List Mt))).length = c := by simp; omega
      rw [hlen, show c + j - c = j from by omega] at hl
      exact h j e l he hl)
  have hlen : (((underT D t).elems.take c).map (fun e => ([⟨e.name, (underT D t).n, e⟩] : List Mt))).length = c := by simp; omega
  rw [mergeM_lo _ _ _ 0 [] (by rw [hlen, hc]; simp), mergeM_hi _ _ _ _ (by rw [hlen, hc]; simp), List.nil_append, flatten_single (fun e => (⟨e.name, (underT D t).n, e⟩ : Mt))] at h1
  exact h1
theorem mergeE_snoc (L : List (List Mt)) (l out : List Mt) : mergeE (L ++ [l]) out = l.foldl addM (mergeE L out) := by
  unfold mergeE
  rw [List.foldl_append]
  rfl
theorem foldl_snoc (l : List Mt) (m : Mt) (out : List Mt) : (l ++ [m]).foldl addM out = addM (l.foldl addM out) m := by
  rw [List.foldl_append]
  rfl
/-- declared methods' keys -/
theorem own_nodup {u : Ty} {c : Nat} (h : Uniq (names (u.elems.take c))) (hm : ∀ (i : Nat) e, u.elems[i]? = some e → i < c → e.name.toList ≠ us) : ((ownM u c).map keyM).Nodup := by
  have hk : (ownM u c).map keyM = (u.elems.take c).map fun e => keyOf e.name.toList u.n := by unfold ownM; rw [List.map_map]; rfl
  rw [hk, List.nodup_iff_pairwise_ne, List.pairwise_iff_getElem]
  intro i j hi hj hij
  simp only [List.length_map] at hi hj
  simp only [List.getElem_map]
  intro he
  have h1 : (u.elems.take c)[i].name.toList = (u.elems.take c)[j].name.toList := (Prod.ext_iff.1 he).1
  have hn : ∀ (k : Nat) (hk : k < (u.elems.take c).length), (names (u.elems.take c))[k]? = some (u.elems.take c)[k].name.toList := fun k hk => by
    unfold names
    rw [List.getElem?_map, List.getElem?_eq_getElem hk]
    rfl
  have h2 := h.un i j _ hij (hn i hi) (by rw [h1]; exact hn j hj)
  have hic : i < c := by rw [List.length_take] at hi; omega
  refine hm i (u.elems.take c)[i] ?_ hic h2
  rw [← List.getElem?_take_of_lt hic, List.getElem?_eq_getElem hi]
end Go.Proofs.YtelmnkfdpnkpoaaGreatDoor
namespace Go.Proofs.YtelmnkfdpnkpoaaGreatDoor
open Go Go.Kd

def tN (n : Nat) : Ty := .mk 1 n 0 false [] eB eB false
def errB : Ty := .mk 0 20 0 false [] eB eB false
theorem tN_kind (n : Nat) : (tN n).kind = 1 := rfl
theorem tN_n (n : Nat) : (tN n).n = n := rfl
theorem tN_inj {n m : Nat} (h : tN n = tN m) : n = m := by
  have := congrArg Ty.n h
  rw [tN_n, tN_n] at this
  omega
theorem isAl_tN {D : List De} {n : Nat} {e : De} (he : D[n]? = some e) : isAl D (tN n) = e.al := by
  unfold isAl decl
  rw [if_pos (tN_kind n), tN_n, Int.toNat_natCast, he]
theorem isAl_n {D : List De} {t : Ty} {e : De} (hk : t.kind = 1) (he : D[t.n.toNat]? = some e) : isAl D t = e.al := by
  unfold isAl decl
  rw [if_pos hk, he]
theorem unal1_e {D : List De} {t : Ty} {e : De} (hk : t.kind = 1) (he : D[t.n.toNat]? = some e) (ha : e.al = true) : unal1 D t = e.ty := by
  unfold unal1 decl
  rw [if_pos hk, he]
  simp [ha]
/-- an alias stands for what it was declared to be -/
theorem unalias_step {D : List De} (hD : ShapedD D) {t : Ty} {e : De} (hk : t.kind = 1) (he : D[t.n.toNat]? = some e) (ha : e.al = true) : unaliasT D t = unaliasT D e.ty := by
  have hlt := (List.getElem?_eq_some_iff.1 he).1
  obtain ⟨m, hm⟩ : ∃ m, D.length = m + 1 := ⟨D.length - 1, by omega⟩
  have h1 : rep (unal1 D) D.length t = rep (unal1 D) m e.ty := by rw [hm, rep_succ', unal1_e hk he ha]
  have h2 : rep (unal1 D) D.length e.ty = rep (unal1 D) m e.ty := by
    cases hb : isAl D e.ty with
    | false => rw [rep_fix (unal1_id hb), rep_fix (unal1_id hb)]
    | true =>
      have hs := (hD _ e he).shape
      have hk' := isAl_kind hb
      have h3 := hs.nm hk' (.inl rfl)
      have h4 := hs.n0 (by rw [hk']; simp [limitN]; try omega)
      obtain ⟨j, e', _, _, _, h5, h6⟩ := unalias_al hD m e.ty (by omega) hb (by omega) h4
      rw [h6, hm, show m + 1 = m + 1 from rfl, rep_add (unal1 D) m e.ty 1, h6]
      exact unal1_id h5
  unfold unaliasT
  rw [h1, h2]
theorem under_of_unalias {D : List De} {t u : Ty} (h : unaliasT D t = unaliasT D u) : underT D t = underT D u := by unfold underT; rw [h]
theorem und1_e {D : List De} {t : Ty} {e : De} (hk : t.kind = 1) (he : D[t.n.toNat]? = some e) : und1 D t = unaliasT D e.ty := by
  unfold und1 decl
  rw [if_pos hk, he]
/-- a defined type has the underlying type of what it was declared by -/
theorem under_step {D : List De} (hD : ShapedD D) {t : Ty} {e : De} (hk : t.kind = 1) (he : D[t.n.toNat]? = some e) : underT D t = underT D e.ty := by
  cases ha : e.al with
  | true => exact under_of_unalias (unalias_step hD hk he ha)
  | false =>
    have hlt := (List.getElem?_eq_some_iff.1 he).1
    obtain ⟨m, hm⟩ : ∃ m, D.length = m + 1 := ⟨D.length - 1, by omega⟩
    have h0 : unaliasT D t = t := by rw [unalias_lit (by rw [isAl_n hk he]; exact ha), norm_named (by omega)]
    have h1 : rep (und1 D) D.length t = rep (und1 D) m (unaliasT D e.ty) := by rw [hm, rep_succ', und1_e hk he]
    have h2 : rep (und1 D) D.length (unaliasT D e.ty) = rep (und1 D) m (unaliasT D e.ty) := by
      by_cases hk' : (unaliasT D e.ty).kind = 1
      · have key : ∃ (b : Ty), unaliasT D e.ty = b ∧ b.kind = 1 ∧ b.n < m ∧ 0 ≤ b.n := by
          rcases unalias_cases hD (by omega) (hD _ e he) with ⟨h3, h4⟩ | ⟨j, e', h3, hj, h5, h6, h7, h8⟩
          · have hk2 : e.ty.kind = 1 := by rw [h4] at hk'; exact norm_kind1 hk'
            have hs := (hD _ e he).shape
            have h5 := hs.nm hk2 (.inl rfl)
            have h6 := hs.n0 (by rw [hk2]; simp [limitN]; try omega)
            exact ⟨e.ty, by rw [h4, norm_named (by omega)], hk2, by omega, h6⟩
          · have hk2 : e'.ty.kind = 1 := by rw [h8] at hk'; exact norm_kind1 hk'
            have hs := (hD _ e' h5).shape
            have h9 := hs.nm hk2 (.inl rfl)
            have h10 := hs.n0 (by rw [hk2]; simp [limitN]; try omega)
            exact ⟨e'.ty, by rw [h8, norm_named (by omega)], hk2, by omega, h10⟩
        obtain ⟨b, hb, hb1, hb2, hb3⟩ := key
        rw [hb]
        obtain ⟨j, e', _, _, h5, h6⟩ := und_nm hD m b (by omega) hb1 hb2 hb3
        rw [h6, hm, rep_add (und1 D) m b 1, h6]
        exact und1_lit (norm_kind_ne h5)
      · rw [rep_fix (und1_lit hk'), rep_fix (und1_lit hk')]
    unfold underT
    rw [h0, h1, h2]
theorem norm_kind0 {t : Ty} (h : (norm t).kind = 0) : t.kind = 0 := by
  rcases norm_cases t with ⟨h1, h2⟩ | ⟨h1, _⟩ | ⟨h1, _⟩
  · rw [h2] at h; exact h
  · exact h1
  · exact h1
/-- a literal, or a predeclared type, underlies itself -/
theorem under_lit {D : List De} {t : Ty} (hk : t.kind ≠ 1) (he : ¬ (t.kind = 0 ∧ t.n = 20)) : underT D t = norm t := by
  unfold underT
  rw [unalias_lit (isAl_lit hk), rep_fix (und1_lit (norm_kind_ne hk))]
  unfold errN
  rw [if_neg]
  rintro ⟨h1, h2⟩
  rcases norm_cases t with ⟨h3, h4⟩ | ⟨h3, _, _, h4, h5⟩ | ⟨_, _, h3⟩
  · rw [h4] at h1; exact h3 h1
  · rw [h4] at h2
    split at h2
    · omega
    · split at h2
      · omega
      · exact he ⟨h3, h2⟩
  · rw [h3] at h1; simp [anyT, Ty.kind] at h1
theorem under_err {D : List De} {t : Ty} (hk : t.kind = 0) (hn : t.n = 20) : underT D t = errT := by
  unfold underT
  rw [unalias_lit (isAl_lit (by omega))]
  have : norm t = t := by unfold norm; rw [if_pos hk, if_neg (by omega), if_neg (by omega), if_neg (by omega)]
  rw [this, rep_fix (und1_lit (by omega))]
  unfold errN
  rw [if_pos ⟨hk, hn⟩]
theorem under_norm_err : norm errT = errT := norm_named (by decide)
/-- an alias at the end of its chain -/
theorem unalias_end {D : List De} {t : Ty} (h : isAl D t = false) : unaliasT D t = norm t := unalias_lit h
end Go.Proofs.YtelmnkfdpnkpoaaGreatDoor

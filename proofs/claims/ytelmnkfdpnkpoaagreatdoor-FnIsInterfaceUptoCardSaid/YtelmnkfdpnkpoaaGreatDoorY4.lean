/- The walks and the plain laws, part 4. -/
import Derived.Test.YtelmnkfdpnkpoaaGreatDoorY3
import Derived.Test.YtelmnkfdpnkpoaaGreatDoorY2
namespace Go.Proofs.YtelmnkfdpnkpoaaGreatDoor
open Go Go.Kd
set_option maxRecDepth 100000

/-- from a world to a later one, with more blocks that are read -/
theorem Tr.staM {K : Cfg} {l : Nat} {w w' : World} (x : Sta K l w w') (hl : l ≤ 3) {p q : Nat → Prop} (hq : ∀ d, d < w.heap.size → p d → q d) : Tr K w w' p q := ⟨fun b cs t hp ht h => by
  obtain ⟨cs', h1, h2⟩ := x.has ht h
  exact ⟨hq b h.lt hp, cs', h1, h2.lev hl⟩⟩
theorem Tr.sameM {K : Cfg} {w w' : World} {p q : Nat → Prop} (hs : ∀ b, p b → w'.heap[b]? = w.heap[b]?) (hq : ∀ d, p d → q d) : Tr K w w' p q := ⟨fun b cs _ hp _ h => ⟨hq b hp, cs, ⟨(hs b hp).trans h.at_⟩, .rfl' ..⟩⟩
theorem IfT.tr {K : Cfg} {w w' : World} {p q : Nat → Prop} (x : Tr K w w' p q) {b tb : Nat} (hp : p b) (h : IfT w b (pt tb)) : q b ∧ IfT w' b (pt tb) := by
  obtain ⟨ma, mn, mc', ea, en, ec, h⟩ := h
  obtain ⟨h0, cs', h1, h2⟩ := x.has _ _ _ hp (by decide) h
  obtain ⟨ts', rfl⟩ := h2.ifb
  have h6 := h2.cell 6 (by
    unfold Go.Proofs.YtelmnkfdpnkpoaaGreatDoor.mc
    simp only [show ¬ tIF = tTY from by decide, if_false, if_true]
    rfl)
  have : ts' = pt tb := Option.some.inj h6
  subst this
  exact ⟨h0, ma, mn, mc', ea, en, ec, h1⟩
/-- the term list of all types; the blocks that are read: p -/
def AllQ (w : World) (p : Nat → Prop) (v : Value) : Prop := ∃ a c tb, v = .slice a 1 c ∧ RowQ w p tTP a 1 (fun _ => tb) ∧ p tb ∧ Has w tb (.cells #[.bool false, .nilIface] tTM)
theorem AllQ.tr {K : Cfg} {w w' : World} {p q : Nat → Prop} (x : Tr K w w' p q) {v : Value} (h : AllQ w p v) : AllQ w' q v := by
  obtain ⟨a, c, tb, h1, h2, h3, h4⟩ := h
  obtain ⟨k1, k2⟩ := x.imm h3 h4
  exact ⟨a, c, tb, h1, h2.tr x, k1, k2⟩
theorem AllQ.all {w : World} {p : Nat → Prop} {v : Value} (h : AllQ w p v) : AllT w v := by
  obtain ⟨a, c, tb, h1, h2, _, h4⟩ := h
  exact ⟨a, c, tb, h1, h2.row, h4⟩
/-- a method of a type set -/
def MthO (K : Cfg) (s : Gs) (w : World) (p : Nat → Prop) (m : Mt) (fb : Nat) : Prop :=
  ∃ pk sv, PkOk s m.pkg m.name pk ∧ p fb ∧ FuncV w fb pk m.name sv ∧ RT K s w p sv m.fn ∧ m.fn.kind = 8 ∧ Ident m.name.toList ∧ (m.pkg = 0 ∨ m.pkg = 1) ∧ m.name.size ≤ Big
theorem MthO.tr {K : Cfg} {s : Gs} {w w' : World} {p q : Nat → Prop} (x : Tr K w w' p q) {m : Mt} {fb : Nat} (h : MthO K s w p m fb) : MthO K s w' q m fb := by
  obtain ⟨pk, sv, h1, h2, h3, h4, h5⟩ := h
  obtain ⟨k1, k2⟩ := h3.tr x h2
  exact ⟨pk, sv, h1, k1, k2, h4.tr x, h5⟩
theorem MthO.le {K : Cfg} {s s' : Gs} {w : World} {p : Nat → Prop} (l : s.le s') {m : Mt} {fb : Nat} (h : MthO K s w p m fb) : MthO K s' w p m fb := by
  obtain ⟨pk, sv, h1, h2, h3, h4, h5⟩ := h
  exact ⟨pk, sv, by unfold PkOk at *; rw [l.pk]; exact h1, h2, h3, h4.le l, h5⟩
abbrev cmpM (m m' : Mt) : Int := cmpN m.name.toList (pth m.pkg).toList m'.name.toList (pth m'.pkg).toList
def Srtd (ms : List Mt) : Prop := ∀ (i j : Nat) m m', i < j → ms[i]? = some m → ms[j]? = some m' → cmpM m m' < 0
/-- a type set that has been computed -/
structure TSo (K : Cfg) (s : Gs) (w : World) (p : Nat → Prop) (b tb : Nat) (t : Ty) (ms : List Mt) (fb : Nat → Nat) : Prop where
  pb : p b
  ptb : p tb
  ib : IfT w b (pt tb)
  im : ∃ ms0, IM K.D t ms0 ∧ ms.Perm ms0
  srt : Srtd ms
  tsb : ∃ a c v, Has w tb (.cells #[.bool false, .slice a ms.length c, v, .bool false] tTS) ∧ AllQ w p v ∧ RowQ w p tFN a ms.length fb
  mth : ∀ (i : Nat) m, ms[i]? = some m → MthO K s w s.sl m (fb i)
theorem TSo.tr {K : Cfg} {s : Gs} {w w' : World} {p q : Nat → Prop} (x : Tr K w w' p q) (y : Tr K w w' s.sl s.sl) {b tb : Nat} {t : Ty} {ms : List Mt} {fb : Nat → Nat} (h : TSo K s w p b tb t ms fb) : TSo K s w' q b tb t ms fb := by
  obtain ⟨a, c, v, h1, h2, h3⟩ := h.tsb
  obtain ⟨k1, k2⟩ := h.ib.tr x h.pb
  obtain ⟨k3, k4⟩ := x.imm h.ptb h1
  exact ⟨k1, k3, k2, h.im, h.srt, ⟨a, c, v, k4, h2.tr x, h3.tr x⟩, fun i m hm => (h.mth i m hm).tr y⟩
theorem TSo.le {K : Cfg} {s s' : Gs} {w : World} {p : Nat → Prop} (l : s.le s') (hs : ∀ d, s.sl d → s'.sl d) {b tb : Nat} {t : Ty} {ms : List Mt} {fb : Nat → Nat} (h : TSo K s w p b tb t ms fb) : TSo K s' w p b tb t ms fb :=
  ⟨h.pb, h.ptb, h.ib, h.im, h.srt, h.tsb, fun i m hm => ((h.mth i m hm).le l).tr (.mono fun d _ => hs d)⟩
def TSv (K : Cfg) (s : Gs) (w : World) (p : Nat → Prop) (b : Nat) (t : Ty) : Prop := ∃ tb ms fb, TSo K s w p b tb t ms fb
theorem TSv.tr {K : Cfg} {s : Gs} {w w' : World} {p q : Nat → Prop} (x : Tr K w w' p q) (y : Tr K w w' s.sl s.sl) {b : Nat} {t : Ty} (h : TSv K s w p b t) : TSv K s w' q b t := by
  obtain ⟨tb, ms, fb, h⟩ := h
  exact ⟨tb, ms, fb, h.tr x y⟩
theorem TSv.le {K : Cfg} {s s' : Gs} {w : World} {p : Nat → Prop} (l : s.le s') (hs : ∀ d, s.sl d → s'.sl d) {b : Nat} {t : Ty} (h : TSv K s w p b t) : TSv K s' w p b t := by
  obtain ⟨tb, ms, fb, h⟩ := h
  exact ⟨tb, ms, fb, h.le l hs⟩

/-- only type sets that were not there have been computed -/
structure Cpl (K : Cfg) (w w' : World) : Prop where
  os : w'.os = w.os
  tape : w'.tape = w.tape
  output : w'.output = w.output
  size : w.heap.size ≤ w'.heap.size
  old : ∀ b, b < K.N → b < w.heap.size → w'.heap[b]? = w.heap[b]?
  blk : ∀ (d : Nat) (o : Obj), w.heap[d]? = some o → (∀ cs, o ≠ Obj.cells cs tIF (0, 0)) → w'.heap[d]? = some o
  ifs : ∀ (d : Nat) (cs : Array Value), w.heap[d]? = some (.cells cs tIF (0, 0)) → ∃ cs', w'.heap[d]? = some (.cells cs' tIF (0, 0)) ∧ MOk K 1 d tIF cs cs'
theorem Cpl.sta {K : Cfg} {w w' : World} (x : Cpl K w w') : Sta K 1 w w' := ⟨x.os, x.tape, x.output, x.size, x.old, fun b cs t fz _ _ h => by
    by_cases hi : t = tIF ∧ fz = (0, 0)
    · obtain ⟨rfl, rfl⟩ := hi
      exact x.ifs b cs h
    · exact ⟨cs, x.blk b _ h fun cs' e => by
        cases e
        exact hi ⟨rfl, rfl⟩, .rfl' ..⟩, fun b o _ h ho => x.blk b o h fun cs => ho cs tIF (0, 0)⟩
theorem Cpl.of_ext {K : Cfg} {w w' : World} (x : Ext w w') : Cpl K w w' := ⟨x.below.os, x.below.tape, x.below.output, x.below.size, fun b _ hb => x.below.block b hb, fun d o h _ => by rw [x.below.block d (Array.getElem?_eq_some_iff.1 h).1]; exact h,
  fun d cs h => ⟨cs, by rw [x.below.block d (Array.getElem?_eq_some_iff.1 h).1]; exact h, .rfl' ..⟩⟩
theorem Cpl.rfl' (K : Cfg) (w : World) : Cpl K w w := .of_ext (Ext.rfl' w)
theorem Cpl.trans {K : Cfg} {a b c : World} (h : Cpl K a b) (k : Cpl K b c) : Cpl K a c :=
  ⟨k.os.trans h.os, k.tape.trans h.tape, k.output.trans h.output, Nat.le_trans h.size k.size, fun d hd ha => (k.old d hd (by have := h.size; omega)).trans (h.old d hd ha), fun d o ha ho => k.blk d o (h.blk d o ha ho) ho, fun d cs ha => by
    obtain ⟨cs', h1, h2⟩ := h.ifs d cs ha
    obtain ⟨cs2, h3, h4⟩ := k.ifs d cs' h1
    exact ⟨cs2, h3, h2.trans h4⟩⟩
/-- a store into what is newer -/
theorem Cpl.upd_new {K : Cfg} {w0 w w' : World} {b : Nat} {o : Obj} (h : Cpl K w0 w) (u : Upd w b o w') (hb : w0.heap.size ≤ b) : Cpl K w0 w' :=
  ⟨u.os.trans h.os, u.tape.trans h.tape, u.output.trans h.output, by rw [u.size]; exact h.size, fun d hd ha => by rw [u.oth d (by omega)]; exact h.old d hd ha, fun d o' ha ho => by
    have hlt := (Array.getElem?_eq_some_iff.1 ha).1
    rw [u.oth d (by omega)]; exact h.blk d o' ha ho, fun d cs ha => by
    have hlt := (Array.getElem?_eq_some_iff.1 ha).1
    rw [u.oth d (by omega)]; exact h.ifs d cs ha⟩
/-- what has turned is newer -/
theorem Cpl.bel {K : Cfg} {w0 w w' : World} (h : Cpl K w0 w) (x : RowKit.Below w0.heap.size w w') : Cpl K w0 w' :=
  ⟨x.os.trans h.os, x.tape.trans h.tape, x.output.trans h.output, Nat.le_trans h.size x.size, fun d hd ha => by rw [x.block d ha]; exact h.old d hd ha, fun d o' ha ho => by
    rw [x.block d (Array.getElem?_eq_some_iff.1 ha).1]; exact h.blk d o' ha ho, fun d cs ha => by
    rw [x.block d (Array.getElem?_eq_some_iff.1 ha).1]; exact h.ifs d cs ha⟩
theorem mok_ts {K : Cfg} {l b : Nat} (hl : 1 ≤ l) {ma : Option Addr} {mn mc' : Nat} {ea : Option Addr} {en ec : Nat} {ts : Value} : MOk K l b tIF (ifc ma mn mc' ea en ec (.pointer none)) (ifc ma mn mc' ea en ec ts) := ⟨rfl, fun i hi => by
  have h6 : i ≠ 6 := fun e => by
    subst e
    unfold mc at hi
    simp only [show ¬ tIF = tTY from by decide, if_false, if_true] at hi
    simp [nilP] at hi
    omega
  match i, h6 with
  | 0, _ | 1, _ | 2, _ | 3, _ | 4, _ | 5, _ => rfl
  | i + 7, _ => rfl⟩
/-- the type set is put into the interface -/
theorem Cpl.put {K : Cfg} {w w' : World} {b : Nat} {ma : Option Addr} {mn mc' : Nat} {ea : Option Addr} {en ec : Nat} {ts : Value} (hb : Has w b (.cells (ifc ma mn mc' ea en ec (.pointer none)) tIF)) (u : Upd w b (.cells (ifc ma mn mc' ea en ec ts) tIF) w') (hN : K.N ≤ b) : Cpl K w w' :=
  ⟨u.os, u.tape, u.output, Nat.le_of_eq u.size.symm, fun d hd _ => u.oth d (by omega), fun d o ha ho => by
    by_cases hdb : d = b
    · subst hdb
      have := hb.at_.symm.trans ha
      cases this
      exact absurd rfl (ho _)
    · rw [u.oth d hdb]; exact ha, fun d cs ha => by
    by_cases hdb : d = b
    · subst hdb
      have := hb.at_.symm.trans ha
      cases this
      exact ⟨_, u.has.at_, mok_ts (Nat.le_refl _)⟩
    · exact ⟨cs, by rw [u.oth d hdb]; exact ha, .rfl' ..⟩⟩
theorem IfN.same {w w' : World} {b : Nat} (h : IfN w b) (hs : ∀ cs, Has w b (.cells cs tIF (0, 0)) → w'.heap[b]? = w.heap[b]?) : IfN w' b := by
  obtain ⟨ma, mn, mc', ea, en, ec, h⟩ := h
  exact ⟨ma, mn, mc', ea, en, ec, ⟨(hs _ h).trans h.at_⟩⟩
theorem IfN.ext {w w' : World} {b : Nat} (x : Ext w w') (h : IfN w b) : IfN w' b := h.same fun _ k => x.below.block b k.lt
/-- a known interface's type set is there, or it is to be computed -/
def IfS (K : Cfg) (s : Gs) (w : World) (p : Nat → Prop) (c : Nat) (u : Ty) : Prop := TSv K s w p c u ∨ IfN w c
/-- keys -/
theorem pth_inj {p q : Int} (hp : p = 0 ∨ p = 1) (hq : q = 0 ∨ q = 1) (h : (pth p).toList = (pth q).toList) : p = q := by
  rcases hp with rfl | rfl <;> rcases hq with rfl | rfl <;> first
    | rfl
    | (exfalso
       unfold pth at h
       simp [Lib.toList_data] at h)
theorem idS_key {m m' : Mt} (hi : Ident m.name.toList) (hi' : Ident m'.name.toList) (hp : m.pkg = 0 ∨ m.pkg = 1) (hp' : m'.pkg = 0 ∨ m'.pkg = 1) : idS m.name.toList (pth m.pkg).toList = idS m'.name.toList (pth m'.pkg).toList ↔ keyM m = keyM m' := by
  constructor
  · intro h
    obtain ⟨h1, h2⟩ := idS_inj hi hi' (pth_nodot _) (pth_nodot _) h
    unfold keyM keyOf
    rw [← h1]
    rcases h2 with h2 | h2
    · rw [h2]; rfl
    · rw [pth_inj hp hp' h2]
  · intro h
    unfold keyM keyOf at h
    obtain ⟨h1, h2⟩ := Prod.ext_iff.1 h
    simp only at h1 h2
    unfold idS
    rw [← h1] at h2 ⊢
    cases he : expo m.name.toList
    · rw [he] at h2
      simp only [Bool.false_eq_true, if_false] at h2 ⊢
      rw [h2]
    · rfl
theorem cmpM_key {m m' : Mt} (h : keyM m = keyM m') : cmpM m m' = 0 := by
  unfold keyM keyOf at h
  obtain ⟨h1, h2⟩ := Prod.ext_iff.1 h
  simp only at h1 h2
  unfold cmpM
  rw [← h1] at h2 ⊢
  rw [cmpN_c3, c3_zero]
  refine ⟨rfl, .inr ⟨beq_self_eq_true _, ?_⟩⟩
  cases he : expo m.name.toList
  · rw [he] at h2
    simp only [Bool.false_eq_true, if_false] at h2
    right
    rw [h2]; exact compareBytes_self _
  · exact .inl rfl
theorem Srtd.nodup {ms : List Mt} (h : Srtd ms) : (ms.map keyM).Nodup := by
  rw [List.nodup_iff_pairwise_ne, List.pairwise_iff_getElem]
  intro i j hi hj hij he
  simp only [List.length_map] at hi hj
  simp only [List.getElem_map] at he
  have h1 := h i j ms[i] ms[j] hij (List.getElem?_eq_getElem hi) (List.getElem?_eq_getElem hj)
  rw [cmpM_key he] at h1
  omega
theorem PkOk.pkv {s : Gs} {w : World} (hp : PkgOK s w) {n : Int} {nm : ByteArray} {pk : Value} (hn : n = 0 ∨ n = 1) (h : PkOk s n nm pk) : PkV w nm pk (pth n) := by
  rcases h with rfl | ⟨rfl, h⟩
  · obtain ⟨c, x, h1, h2⟩ := hp n hn
    exact ⟨⟨_, h1⟩, fun _ => ⟨c, x, h1, h2, pth_ne n⟩⟩
  · exact ⟨⟨_, rfl⟩, fun he => by rw [h] at he; cases he⟩
theorem MthO.pkv {K : Cfg} {s : Gs} {w : World} {p : Nat → Prop} (hp : PkgOK s w) {m : Mt} {fb : Nat} (h : MthO K s w p m fb) : ∃ pk sv, FuncV w fb pk m.name sv ∧ PkV w m.name pk (pth m.pkg) := by
  obtain ⟨pk, sv, h1, _, h3, _, _, _, h7, _⟩ := h
  exact ⟨pk, sv, h3, h1.pkv hp h7⟩
/-- what an interface's block holds -/
structure IfD (K : Cfg) (s : Gs) (w : World) (p : Nat → Prop) (b : Nat) (t : Ty) (ma : Option Addr) (c mc' : Nat) (ea : Option Addr) (en ec : Nat) (fb : Nat → Nat) (me : Nat → Ty) (sv ev : Nat → Value) : Prop where
  k9 : (norm t).kind = 9
  cnt : (norm t).count = c
  len : c + en = (norm t).elems.length
  ib : IfB w b ma c mc' ea en ec
  pb : p b
  sg : ∀ i, i < c → RT K s w p (sv i) (me i)
  fn : ∀ i, i < c → ∃ pk, PkOk s (norm t).n (me i).name pk ∧ p (fb i) ∧ FuncV w (fb i) pk (me i).name (sv i)
  pm : ((List.range c).map me).Perm ((norm t).elems.take c)
  em : ∀ (i : Nat) e, (norm t).elems[c + i]? = some e → RT K s w p (ev i) e
  fr : RowQ w p tFN ma c fb
  er : RowT K w p ea en ev
theorem RT.ifd {K : Cfg} {s : Gs} {w : World} {p : Nat → Prop} {b : Nat} {t : Ty} (h : RT K s w p (.iface tPI (pt b)) t) (hi : isIf t) (he : ∀ T v, s.er = .iface T v → T ≠ tPI) (hc : t.kind = 9 → 0 ≤ t.count ∧ t.count ≤ t.elems.length) :
    ∃ ma c mc' ea en ec fb me sv ev, IfD K s w p b t ma c mc' ea en ec fb me sv ev := by
  generalize hv : (Value.iface tPI (pt b)) = v at h
  cases h with
  | basic _ b' i nb h0 h1 h2 => cases hv
  | error _ h0 h1 => exact absurd rfl (he _ _ hv.symm)
  | any _ b' h0 h1 hp h2 h3 =>
    cases hv
    have hn : norm t = anyT := by unfold norm; rw [if_pos h0, if_neg (by omega), if_neg (by omega), if_pos h1]
    exact ⟨none, 0, 0, none, 0, 0, fun _ => 0, fun _ => anyT, fun _ => .nilIface, fun _ => .nilIface, by rw [hn]; rfl, by rw [hn]; rfl, by rw [hn]; rfl, h2, hp, fun i hi => by omega, fun i hi => by omega, by rw [hn]; exact .refl _, fun i e he => by rw [hn] at he; simp [anyT, Ty.elems] at he, fun i hi => by omega, fun i hi => by omega⟩
  | named _ _ h0 => rcases hi with h | h <;> omega
  | ptr _ _ _ _ h0 => rcases hi with h | h <;> omega
  | slice _ _ _ _ h0 => rcases hi with h | h <;> omega
  | array _ _ _ _ h0 => rcases hi with h | h <;> omega
  | map _ _ _ _ _ _ h0 => rcases hi with h | h <;> omega
  | chan _ _ _ _ h0 => rcases hi with h | h <;> omega
  | struct _ _ _ _ _ _ _ _ _ h0 => rcases hi with h | h <;> omega
  | func _ _ _ _ _ _ h0 => rcases hi with h | h <;> omega
  | iface _ b' ma mc' ea ec fb me sv ev h0 h1 h2 h3 h4 hp h5 h6 h7 h8 =>
    cases hv
    have hn : norm t = t := norm_named (by omega)
    replace hc := hc h0
    refine ⟨ma, t.count.toNat, mc', ea, t.elems.length - t.count.toNat, ec, fb, me, sv, ev, by rw [hn]; exact h0, by rw [hn]; omega, by rw [hn]; omega, h5, hp, h1, by rw [hn]; exact h2, by rw [hn]; exact h3, by rw [hn]; exact h4, h6, h7⟩
end Go.Proofs.YtelmnkfdpnkpoaaGreatDoor
namespace Go.Proofs.YtelmnkfdpnkpoaaGreatDoor
open Go Go.Kd
set_option maxRecDepth 100000

theorem c_Basic_Underlying (b : Nat) (w : World) : Calls Tryz.prog 247 #[pt b] w (Ret fun r w' => r = .iface 123 (pt b) ∧ w = w') := by
  refine W.enter (args := [pt b]) Tryz.func247 rfl Tryz.ntmps247 rfl rfl ?_
  refine zst ?_
  exact fin1 (.inl rfl) rfl rfl ⟨rfl, rfl⟩
theorem c_Pointer_Underlying (b : Nat) (w : World) : Calls Tryz.prog 242 #[pt b] w (Ret fun r w' => r = .iface 96 (pt b) ∧ w = w') := by
  refine W.enter (args := [pt b]) Tryz.func242 rfl Tryz.ntmps242 rfl rfl ?_
  refine zst ?_
  exact fin1 (.inl rfl) rfl rfl ⟨rfl, rfl⟩
theorem c_Array_Underlying (b : Nat) (w : World) : Calls Tryz.prog 253 #[pt b] w (Ret fun r w' => r = .iface 149 (pt b) ∧ w = w') := by
  refine W.enter (args := [pt b]) Tryz.func253 rfl Tryz.ntmps253 rfl rfl ?_
  refine zst ?_
  exact fin1 (.inl rfl) rfl rfl ⟨rfl, rfl⟩
theorem c_Map_Underlying (b : Nat) (w : World) : Calls Tryz.prog 255 #[pt b] w (Ret fun r w' => r = .iface 151 (pt b) ∧ w = w') := by
  refine W.enter (args := [pt b]) Tryz.func255 rfl Tryz.ntmps255 rfl rfl ?_
  refine zst ?_
  exact fin1 (.inl rfl) rfl rfl ⟨rfl, rfl⟩
theorem c_Chan_Underlying (b : Nat) (w : World) : Calls Tryz.prog 257 #[pt b] w (Ret fun r w' => r = .iface 153 (pt b) ∧ w = w') := by
  refine W.enter (args := [pt b]) Tryz.func257 rfl Tryz.ntmps257 rfl rfl ?_
  refine zst ?_
  exact fin1 (.inl rfl) rfl rfl ⟨rfl, rfl⟩
theorem c_Struct_Underlying (b : Nat) (w : World) : Calls Tryz.prog 258 #[pt b] w (Ret fun r w' => r = .iface 159 (pt b) ∧ w = w') := by
  refine W.enter (args := [pt b]) Tryz.func258 rfl Tryz.ntmps258 rfl rfl ?_
  refine zst ?_
  exact fin1 (.inl rfl) rfl rfl ⟨rfl, rfl⟩
theorem c_Signature_Underlying (b : Nat) (w : World) : Calls Tryz.prog 244 #[pt b] w (Ret fun r w' => r = .iface 104 (pt b) ∧ w = w') := by
  refine W.enter (args := [pt b]) Tryz.func244 rfl Tryz.ntmps244 rfl rfl ?_
  refine zst ?_
  exact fin1 (.inl rfl) rfl rfl ⟨rfl, rfl⟩
theorem c_Interface_Underlying (b : Nat) (w : World) : Calls Tryz.prog 234 #[pt b] w (Ret fun r w' => r = .iface 79 (pt b) ∧ w = w') := by
  refine W.enter (args := [pt b]) Tryz.func234 rfl Tryz.ntmps234 rfl rfl ?_
  refine zst ?_
  exact fin1 (.inl rfl) rfl rfl ⟨rfl, rfl⟩
theorem Stp.imp {P : Program} {e : Env} {o : Oper} {w : World} {R R' : Value → World → Prop} (h : Stp P e o w R) (hr : ∀ v w', R v w' → R' v w') : Stp P e o w R' := ⟨fun ρ hρ => by
  have := h.out ρ hρ
  split at this
  · exact hr _ _ this
  · exact hr _ _ this
  · exact this.mono fun x w'' ⟨v, h1, h2⟩ => ⟨v, h1, hr v w'' h2⟩
  · exact this⟩
/-- the types of literals and of predeclared types -/
def litT (T : Nat) : Prop := T = 123 ∨ T = 96 ∨ T = 147 ∨ T = 149 ∨ T = 151 ∨ T = 153 ∨ T = 159 ∨ T = 104 ∨ T = 79
section
variable {e : Env} {w : World} {d : Option Tmp} {ty : TypeId} {pos : String} {aft : Array Edge} {g : Option (Nat × Bool)} {recv : Operand} {tys : Array TypeId}
theorem stp_und_lit {T b : Nat} (hT : litT T) (hr : ev e recv = some (.iface T (pt b))) : Stp Tryz.prog e ⟨d, .call ⟨.invoke recv "Underlying", #[], tys⟩, ty, pos, aft, g⟩ w (fun r w' => r = .iface T (pt b) ∧ w = w') := by
  rcases hT with rfl | rfl | rfl | rfl | rfl | rfl | rfl | rfl | rfl
  · exact stp_invoke (args := []) (vs := []) hr rfl (c_Basic_Underlying b w)
  · exact stp_invoke (args := []) (vs := []) hr rfl (c_Pointer_Underlying b w)
  · exact stp_invoke (args := []) (vs := []) hr rfl (c_Slice_Underlying b w)
  · exact stp_invoke (args := []) (vs := []) hr rfl (c_Array_Underlying b w)
  · exact stp_invoke (args := []) (vs := []) hr rfl (c_Map_Underlying b w)
  · exact stp_invoke (args := []) (vs := []) hr rfl (c_Chan_Underlying b w)
  · exact stp_invoke (args := []) (vs := []) hr rfl (c_Struct_Underlying b w)
  · exact stp_invoke (args := []) (vs := []) hr rfl (c_Signature_Underlying b w)
  · exact stp_invoke (args := []) (vs := []) hr rfl (c_Interface_Underlying b w)
theorem stp_und_named {b T ub : Nat} {obj ms : Value} (h : NamV w b obj (.iface T (pt ub)) ms) (hr : ev e recv = some (.iface tNP (pt b))) : Stp Tryz.prog e ⟨d, .call ⟨.invoke recv "Underlying", #[], tys⟩, ty, pos, aft, g⟩ w (fun r w' => r = .iface T (pt ub) ∧ w = w') :=
  stp_invoke (args := []) (vs := []) hr rfl (c_Named_Underlying b T ub obj ms w h)
end
theorem litT.ne {T : Nat} (h : litT T) : Nat.beq T tAL = false ∧ Nat.beq T tNP = false ∧ Nat.beq T 228 = false ∧ Nat.beq T 208 = false := by
  rcases h with rfl | rfl | rfl | rfl | rfl | rfl | rfl | rfl | rfl <;> exact ⟨rfl, rfl, rfl, rfl⟩
/-- the dynamic type of a literal -/
def dynT (t : Ty) : Nat := if t.kind = 0 then (if t.n = 21 then tPI else 123) else if t.kind = 2 then 96 else if t.kind = 3 then 147 else if t.kind = 4 then 149 else if t.kind = 5 then 151 else if t.kind = 6 then 153
  else if t.kind = 7 then 159 else if t.kind = 8 then 104 else tPI
theorem dynT_lit (t : Ty) : litT (dynT t) := by
  unfold dynT
  repeat' split
  all_goals (unfold litT; decide)
/-- no declared type -/
def isLit (t : Ty) : Prop := t.kind ≠ 1 ∧ ¬ (t.kind = 0 ∧ t.n = 20)
theorem RT.lit {K : Cfg} {s : Gs} {w : World} {p : Nat → Prop} {v : Value} {t : Ty} (h : RT K s w p v t) (hl : isLit t) : ∃ b, v = .iface (dynT t) (pt b) ∧ p b ∧ s.g b = some t := by
  obtain ⟨l1, l2⟩ := hl
  cases h with
  | basic _ b i nb h0 h1 h2 hp h3 h4 => exact ⟨b, by unfold dynT; rw [if_pos h0, if_neg (by omega)], hp, h4⟩
  | error _ h0 h1 => exact absurd ⟨h0, h1⟩ l2
  | any _ b h0 h1 hp h2 h3 => exact ⟨b, by unfold dynT; rw [if_pos h0, if_pos h1], hp, h3⟩
  | named _ _ h0 => exact absurd h0 l1
  | ptr _ e v b h0 h1 _ hp h3 h4 => exact ⟨b, by unfold dynT; simp [h0], hp, h4⟩
  | slice _ e v b h0 h1 _ hp h3 h4 => exact ⟨b, by unfold dynT; simp [h0], hp, h4⟩
  | array _ e v b h0 h1 _ hp h3 h4 => exact ⟨b, by unfold dynT; simp [h0], hp, h4⟩
  | map _ k e u v b h0 h1 _ _ hp h3 h4 => exact ⟨b, by unfold dynT; simp [h0], hp, h4⟩
  | chan _ e v b h0 h1 _ hp h3 h4 => exact ⟨b, by unfold dynT; simp [h0], hp, h4⟩
  | struct _ b fa fc ta tc vb vv tg h0 _ h2 hp h3 h4 h5 h6 => exact ⟨b, by unfold dynT; simp [h0], hp, h6⟩
  | func _ b ps rs vb vv h0 _ h2 hp h3 h4 h5 h6 => exact ⟨b, by unfold dynT; simp [h0], hp, h6⟩
  | iface _ b ma mc ea ec fb me sv ev h0 _ h2 h3 _ hp h5 h6 h7 h8 => exact ⟨b, by unfold dynT; simp [h0], hp, h8⟩
theorem RT.nam {K : Cfg} {s : Gs} {w : World} {p : Nat → Prop} {v : Value} {t : Ty} (h : RT K s w p v t) (hk : t.kind = 1) : s.nm t.n.toNat = some v := by
  cases h <;> first
    | omega
    | assumption
theorem RT.err {K : Cfg} {s : Gs} {w : World} {p : Nat → Prop} {v : Value} {t : Ty} (h : RT K s w p v t) (hk : t.kind = 0) (hn : t.n = 20) : v = s.er := by
  cases h <;> first
    | omega
    | rfl

/-- a declared type's value, as far as it is made -/
inductive DclV (K : Cfg) (s : Gs) (w : World) (n : Nat) (e : De) : Bool → Prop
  | def0 (b ob : Nat) : e.al = false → s.nm n = some (.iface tNP (pt b)) → s.g b = some (tN n) → TnV w ob (s.pk e.pkg) e.name (.iface tNP (pt b)) → Has w b (.cells (nmc (pt ob) true 0 0 .nilIface .nilIface (.slice none 0 0)) tNM) → DclV K s w n e false
  | def1 (b ob : Nat) (u ms : Value) (y : Ty) : e.al = false → s.nm n = some (.iface tNP (pt b)) → s.g b = some (tN n) → TnV w ob (s.pk e.pkg) e.name (.iface tNP (pt b)) → NamV w b (pt ob) u ms → RT K s w s.sl u y → isLit y → underT K.D (tN n) = norm y → DclV K s w n e true
  | al0 : e.al = true → DclV K s w n e false
  | al1 (b ob : Nat) (v v1 : Value) (y : Ty) : e.al = true → s.nm n = some (.iface tAL (pt b)) → TnV w ob (s.pk e.pkg) e.name (.iface tAL (pt b)) → Has w b (.cells #[pt ob, pt b, v, v1] tAB) → RT K s w s.sl v e.ty → IsI v → RT K s w s.sl v1 y → IsI v1 → isAl K.D y = false → unaliasT K.D (tN n) = norm y →
      (y.kind = 1 → 0 ≤ y.n ∧ y.n < n) → DclV K s w n e true
/-- the first i declarations are made -/
def DclI (K : Cfg) (s : Gs) (w : World) (i : Nat) : Prop := ∀ (n : Nat) e, K.D[n]? = some e → DclV K s w n e (decide (n < i))
/-- error -/
def ErrI (K : Cfg) (s : Gs) (w : World) : Prop := ∃ b ob u ms nm, s.er = .iface tNP (pt b) ∧ s.g b = some errB ∧ TnV w ob (.pointer none) nm s.er ∧ NamV w b (pt ob) u ms ∧ RT K s w s.sl u errT
theorem NamV.sta {K : Cfg} {l : Nat} {w w' : World} (x : Sta K l w w') {b ob T ub : Nat} {ms : Value} (h : NamV w b (pt ob) (.iface T (pt ub)) ms) : ∃ ms', NamV w' b (pt ob) (.iface T (pt ub)) ms' := by
  obtain ⟨cs', k1, k2⟩ := x.has (by decide) h
  have hs : cs'.size = 10 := k2.size
  have hc : ∀ i, i ≠ 9 → cs'[i]? = (nmc (pt ob) false 0 15 (.iface T (pt ub)) (.iface T (pt ub)) ms)[i]? := fun i hi => k2.cell i (by
    unfold mc
    simp only [show ¬ tNM = tTY from by decide, show ¬ tNM = tIF from by decide, show ¬ tNM = tSG from by decide, if_false, if_true]
    simp [nilI, hi])
  refine ⟨cs'[9], ?_⟩
  have : cs' = nmc (pt ob) false 0 15 (.iface T (pt ub)) (.iface T (pt ub)) cs'[9] := by
    apply Array.ext_getElem?
    intro i
    by_cases hi : i = 9
    · subst hi; simp [hs]
    · rw [hc i hi]
      match i, hi with
      | 0, _ | 1, _ | 2, _ | 3, _ | 4, _ | 5, _ | 6, _ | 7, _ | 8, _ => rfl
      | i + 10, _ => rw [Array.getElem?_eq_none (by simp), Array.getElem?_eq_none (by simp)]
  unfold NamV
  rw [← this]; exact k1
theorem TnV.sta {K : Cfg} {l : Nat} {w w' : World} (x : Sta K l w w') {ob T : Nat} {pk v : Value} {nm : ByteArray} (h : TnV w ob pk nm (.iface T v)) : TnV w' ob pk nm (.iface T v) := by
  obtain ⟨cs', k1, k2⟩ := x.has (by decide) h
  have hc : ∀ i, cs'[i]? = (#[Value.int .i64 0, pk, .string nm, .iface T v] : Array Value)[i]? := fun i => k2.cell i (by
    unfold mc
    simp only [show ¬ tTN = tTY from by decide, show ¬ tTN = tIF from by decide, show ¬ tTN = tSG from by decide, show ¬ tTN = tNM from by decide, if_false, if_true]
    by_cases hi : i = 3
    · subst hi; simp [nilI]
    · simp [hi])
  have : cs' = #[Value.int .i64 0, pk, .string nm, .iface T v] := Array.ext_getElem? hc
  unfold TnV
  rw [← this]; exact k1
theorem RT.isI {K : Cfg} {s : Gs} {w : World} {p : Nat → Prop} {v : Value} {t : Ty} (h : RT K s w p v t) (hl : isLit t) : IsI v := by
  obtain ⟨b, h1, _⟩ := h.lit hl
  exact ⟨_, b, h1⟩
theorem DclV.sta1 {K : Cfg} {l : Nat} {s : Gs} {w w' : World} (x : Sta K l w w') (hl : l ≤ 3) {n : Nat} {e : De} (h : DclV K s w n e true) : DclV K s w' n e true := by
  cases h with
  | def1 b ob u ms y h1 h2 h3 h4 h5 h6 h7 h8 =>
    obtain ⟨T, ub, rfl⟩ := h6.isI h7
    obtain ⟨ms', h5'⟩ := h5.sta x
    exact .def1 b ob _ ms' y h1 h2 h3 (h4.sta x) h5' (h6.sta x hl) h7 h8
  | al1 b ob v v1 y h1 h2 h3 h4 h5 h6 h7 h8 h9 h10 h11 => exact .al1 b ob v v1 y h1 h2 (h3.sta x) (Has.sta x h4) (h5.sta x hl) h6 (h7.sta x hl) h8 h9 h10 h11
theorem DclI.sta {K : Cfg} {l : Nat} {s : Gs} {w w' : World} (x : Sta K l w w') (hl : l ≤ 3) (h : DclI K s w K.D.length) : DclI K s w' K.D.length := fun n e he => by
  have := h n e he
  rw [decide_eq_true (List.getElem?_eq_some_iff.1 he).1] at this ⊢
  exact this.sta1 x hl
theorem isLit_errT : isLit errT := ⟨by decide, by decide⟩
theorem ErrI.sta {K : Cfg} {l : Nat} {s : Gs} {w w' : World} (x : Sta K l w w') (hl : l ≤ 3) (h : ErrI K s w) : ErrI K s w' := by
  obtain ⟨b, ob, u, ms, nm, h1, h2, h3, h4, h5⟩ := h
  obtain ⟨T, ub, rfl⟩ := h5.isI isLit_errT
  obtain ⟨ms', h4'⟩ := h4.sta x
  rw [h1] at h3
  exact ⟨b, ob, _, ms', nm, h1, h2, by rw [h1]; exact h3.sta x, h4', h5.sta x hl⟩
/-- more is known of the blocks -/
theorem DclV.gle {K : Cfg} {s s' : Gs} {w : World} (l : s.gle s') {n : Nat} {e : De} {d : Bool} (h : DclV K s w n e d) : DclV K s' w n e d := by
  have mv : ∀ {v : Value} {t : Ty}, RT K s w s.sl v t → RT K s' w s'.sl v t := fun h => (h.le l.le).mono fun d _ hd => l.sl d hd
  cases h with
  | def0 b ob h1 h2 h3 h4 h5 => exact .def0 b ob h1 (by rw [l.nm]; exact h2) (l.g _ _ h3) (by rw [l.pk]; exact h4) h5
  | def1 b ob u ms y h1 h2 h3 h4 h5 h6 h7 h8 => exact .def1 b ob u ms y h1 (by rw [l.nm]; exact h2) (l.g _ _ h3) (by rw [l.pk]; exact h4) h5 (mv h6) h7 h8
  | al0 h1 => exact .al0 h1
  | al1 b ob v v1 y h1 h2 h3 h4 h5 h6 h7 h8 h9 h10 h11 => exact .al1 b ob v v1 y h1 (by rw [l.nm]; exact h2) (by rw [l.pk]; exact h3) h4 (mv h5) h6 (mv h7) h8 h9 h10 h11
theorem DclI.gle {K : Cfg} {s s' : Gs} {w : World} (l : s.gle s') {i : Nat} (h : DclI K s w i) : DclI K s' w i := fun n e he => (h n e he).gle l
theorem ErrI.gle {K : Cfg} {s s' : Gs} {w : World} (l : s.gle s') (h : ErrI K s w) : ErrI K s' w := by
  obtain ⟨b, ob, u, ms, nm, h1, h2, h3, h4, h5⟩ := h
  exact ⟨b, ob, u, ms, nm, by rw [l.er]; exact h1, l.g _ _ h2, by rw [l.er]; exact h3, h4, (h5.le l.le).mono fun d _ hd => l.sl d hd⟩

/-! ### Unalias -/
theorem c_unalias_done (b T c : Nat) (ob og v : Value) (w : World) (h : Has w b (.cells #[ob, og, v, .iface T (pt c)] tAB)) : Calls Tryz.prog 135 #[pt b] w (Ret fun r w' => r = .iface T (pt c) ∧ w = w') := by
  refine W.enter (args := [pt b]) Tryz.func135 rfl Tryz.ntmps135 rfl rfl ?_
  refine zst ?_
  exact fin1 (.inl rfl) rfl rfl ⟨rfl, rfl⟩
theorem c_Unalias_yes (b T c : Nat) (ob og v : Value) (w : World) (h : Has w b (.cells #[ob, og, v, .iface T (pt c)] tAB)) : Calls Tryz.prog 116 #[.iface tAL (pt b)] w (Ret fun r w' => r = .iface T (pt c) ∧ w = w') := by
  refine W.enter (args := [.iface tAL (pt b)]) Tryz.func116 rfl Tryz.ntmps116 rfl rfl ?_
  refine zst ?_
  refine WU.stp rfl rfl rfl (stp_call rfl (c_unalias_done b T c ob og v w h)) ?_
  rintro _ _ ⟨rfl, rfl⟩
  refine zst ?_
  exact fin1 (.inl rfl) rfl rfl ⟨rfl, rfl⟩
theorem c_Alias_Underlying_lit (b T c : Nat) (ob og v : Value) (w : World) (h : Has w b (.cells #[ob, og, v, .iface T (pt c)] tAB)) (hT : litT T) : Calls Tryz.prog 240 #[pt b] w (Ret fun r w' => r = .iface T (pt c) ∧ w = w') := by
  refine W.enter (args := [pt b]) Tryz.func240 rfl Tryz.ntmps240 rfl rfl ?_
  refine zst ?_
  refine WU.stp rfl rfl rfl (stp_call rfl (c_unalias_done b T c ob og v w h)) ?_
  rintro _ _ ⟨rfl, rfl⟩
  refine WU.stp rfl rfl rfl (stp_und_lit hT rfl) ?_
  rintro _ _ ⟨rfl, rfl⟩
  refine zst ?_
  exact fin1 (.inl rfl) rfl rfl ⟨rfl, rfl⟩
theorem c_Alias_Underlying_named (b c T ub : Nat) (ob og v obj ms : Value) (w : World) (h : Has w b (.cells #[ob, og, v, .iface tNP (pt c)] tAB)) (hn : NamV w c obj (.iface T (pt ub)) ms) : Calls Tryz.prog 240 #[pt b] w (Ret fun r w' => r = .iface T (pt ub) ∧ w = w') := by
  refine W.enter (args := [pt b]) Tryz.func240 rfl Tryz.ntmps240 rfl rfl ?_
  refine zst ?_
  refine WU.stp rfl rfl rfl (stp_call rfl (c_unalias_done b tNP c ob og v w h)) ?_
  rintro _ _ ⟨rfl, rfl⟩
  refine WU.stp rfl rfl rfl (stp_und_named hn rfl) ?_
  rintro _ _ ⟨rfl, rfl⟩
  refine zst ?_
  exact fin1 (.inl rfl) rfl rfl ⟨rfl, rfl⟩

/-! ### In general -/
/-- t refers to what is made already -/
def Rdy (K : Cfg) (i : Nat) (t : Ty) : Prop := t.kind = 1 → 0 ≤ t.n ∧ t.n.toNat < K.D.length ∧ t.n.toNat < i
theorem under_tN {D : List De} (hD : ShapedD D) {t : Ty} {n : Nat} {e : De} (hk : t.kind = 1) (hn : t.n.toNat = n) (he : D[n]? = some e) : underT D t = underT D (tN n) := by
  rw [under_step hD hk (by rw [hn]; exact he), under_step hD (tN_kind n) (by rw [tN_n, Int.toNat_natCast]; exact he)]
/-- a defined type that is made -/
theorem DclI.def_ {K : Cfg} {s : Gs} {w : World} {i n : Nat} (h : DclI K s w i) {e : De} (he : K.D[n]? = some e) (hi : n < i) (ha : e.al = false) {v : Value} (hv : s.nm n = some v) :
    ∃ b ob T ub ms y, v = .iface tNP (pt b) ∧ s.g b = some (tN n) ∧ TnV w ob (s.pk e.pkg) e.name (.iface tNP (pt b)) ∧ NamV w b (pt ob) (.iface T (pt ub)) ms ∧ RT K s w s.sl (.iface T (pt ub)) y ∧ isLit y ∧ underT K.D (tN n) = norm y := by
  have := h n e he
  rw [decide_eq_true hi] at this
  cases this with
  | def1 b ob u ms y h1 h2 h3 h4 h5 h6 h7 h8 =>
    obtain ⟨T, ub, rfl⟩ := h6.isI h7
    rw [h2] at hv
    cases hv
    exact ⟨b, ob, T, ub, ms, y, rfl, h3, h4, h5, h6, h7, h8⟩
  | al1 b ob v v1 y h1 => rw [h1] at ha; cases ha
theorem DclI.al_ {K : Cfg} {s : Gs} {w : World} {i n : Nat} (h : DclI K s w i) {e : De} (he : K.D[n]? = some e) (hi : n < i) (ha : e.al = true) {v : Value} (hv : s.nm n = some v) :
    ∃ b ob T c v0 y, v = .iface tAL (pt b) ∧ TnV w ob (s.pk e.pkg) e.name (.iface tAL (pt b)) ∧ Has w b (.cells #[pt ob, pt b, v0, .iface T (pt c)] tAB) ∧ RT K s w s.sl v0 e.ty ∧ RT K s w s.sl (.iface T (pt c)) y ∧ isAl K.D y = false ∧ unaliasT K.D (tN n) = norm y ∧ (y.kind = 1 → 0 ≤ y.n ∧ y.n < n) := by
  have := h n e he
  rw [decide_eq_true hi] at this
  cases this with
  | def1 b ob u ms y h1 => rw [h1] at ha; cases ha
  | al1 b ob v v1 y h1 h2 h3 h4 h5 h6 h7 h8 h9 h10 h11 =>
    obtain ⟨T, c, rfl⟩ := h8
    rw [h2] at hv
    cases hv
    exact ⟨b, ob, T, c, v, y, rfl, h3, h4, h5, h7, h9, h10, h11⟩
section
variable {e : Env} {w : World} {d : Option Tmp} {ty : TypeId} {pos : String} {aft : Array Edge} {g : Option (Nat × Bool)} {recv : Operand} {tys : Array TypeId}
/-- Underlying: a literal that underlies the type -/
theorem stp_und {K : Cfg} {s : Gs} {i : Nat} {p : Nat → Prop} {v : Value} {t : Ty} (hD : ShapedD K.D) (hd : DclI K s w i) (he : ErrI K s w) (h : RT K s w p v t) (hi : Rdy K i t) (hr : ev e recv = some v) :
    Stp Tryz.prog e ⟨d, .call ⟨.invoke recv "Underlying", #[], tys⟩, ty, pos, aft, g⟩ w (fun r w' => w = w' ∧ ∃ y, RT K s w (fun d => p d ∨ s.sl d) r y ∧ isLit y ∧ underT K.D t = norm y ∧ IsI r) := by
  by_cases hk : t.kind = 1
  · obtain ⟨h0, h1, h2⟩ := hi hk
    have hel := List.getElem?_eq_getElem h1
    have hnm := h.nam hk
    cases ha : (K.D[t.n.toNat]).al
    · obtain ⟨b, ob, T, ub, ms, y, rfl, k1, k2, k3, k4, k5, k6⟩ := hd.def_ hel h2 ha hnm
      refine Stp.imp (stp_und_named k3 hr) fun r w' ⟨e1, e2⟩ => ⟨e2, y, ?_, k5, by rw [under_tN hD hk rfl hel]; exact k6, ?_⟩
      · rw [e1]; exact k4.mono fun d _ hd => .inr hd
      · rw [e1]; exact ⟨_, _, rfl⟩
    · obtain ⟨b, ob, T, c, v0, y, rfl, k1, k2, k3, k4, k5, k6, k7⟩ := hd.al_ hel h2 ha hnm
      have hu : underT K.D t = underT K.D y := by
        rw [under_tN hD hk rfl hel]
        exact under_of_unalias (by rw [k6, unalias_end k5])
      by_cases hy : y.kind = 1
      · obtain ⟨q0, q1⟩ := k7 hy
        have hlt : y.n.toNat < K.D.length := by omega
        have hel2 := List.getElem?_eq_getElem hlt
        have hal2 : (K.D[y.n.toNat]).al = false := by rw [← isAl_n hy hel2]; exact k5
        obtain ⟨b2, ob2, T2, ub2, ms2, y2, e1, m1, m2, m3, m4, m5, m6⟩ := hd.def_ hel2 (by omega) hal2 (k4.nam hy)
        cases e1
        refine Stp.imp (stp_invoke (args := []) (vs := []) hr rfl (c_Alias_Underlying_named b c T2 ub2 _ _ _ _ _ w k2 m3)) fun r w' ⟨e1, e2⟩ => ⟨e2, y2, ?_, m5, by rw [hu, under_tN hD hy rfl hel2]; exact m6, ?_⟩
        · rw [e1]; exact m4.mono fun d _ hd => .inr hd
        · rw [e1]; exact ⟨_, _, rfl⟩
      · by_cases hye : y.kind = 0 ∧ y.n = 20
        · obtain ⟨b2, ob2, u, ms, nm, q1, q2, q3, q4, q5⟩ := he
          have hv := k4.err hye.1 hye.2
          rw [q1] at hv
          cases hv
          obtain ⟨T2, ub2, rfl⟩ := q5.isI isLit_errT
          refine Stp.imp (stp_invoke (args := []) (vs := []) hr rfl (c_Alias_Underlying_named b c T2 ub2 _ _ _ _ _ w k2 q4)) fun r w' ⟨e1, e2⟩ => ⟨e2, errT, ?_, isLit_errT, by rw [hu, under_err hye.1 hye.2, under_norm_err], ?_⟩
          · rw [e1]; exact q5.mono fun d _ hd => .inr hd
          · rw [e1]; exact ⟨_, _, rfl⟩
        · obtain ⟨b2, e1, m1, m2⟩ := k4.lit ⟨hy, hye⟩
          cases e1
          refine Stp.imp (stp_invoke (args := []) (vs := []) hr rfl (c_Alias_Underlying_lit b _ c _ _ _ w k2 (dynT_lit y))) fun r w' ⟨e1, e2⟩ => ⟨e2, y, ?_, ⟨hy, hye⟩, by rw [hu, under_lit hy hye], ?_⟩
          · rw [e1]; exact k4.mono fun d _ hd => .inr hd
          · rw [e1]; exact ⟨_, _, rfl⟩
  · by_cases hye : t.kind = 0 ∧ t.n = 20
    · obtain ⟨b2, ob2, u, ms, nm, q1, q2, q3, q4, q5⟩ := he
      have hv := h.err hye.1 hye.2
      rw [q1] at hv
      subst hv
      obtain ⟨T2, ub2, rfl⟩ := q5.isI isLit_errT
      refine Stp.imp (stp_und_named q4 hr) fun r w' ⟨e1, e2⟩ => ⟨e2, errT, ?_, isLit_errT, by rw [under_err hye.1 hye.2, under_norm_err], ?_⟩
      · rw [e1]; exact q5.mono fun d _ hd => .inr hd
      · rw [e1]; exact ⟨_, _, rfl⟩
    · obtain ⟨b2, rfl, m1, m2⟩ := h.lit ⟨hk, hye⟩
      refine Stp.imp (stp_und_lit (dynT_lit t) hr) fun r w' ⟨e1, e2⟩ => ⟨e2, t, ?_, ⟨hk, hye⟩, under_lit hk hye, ?_⟩
      · rw [e1]; exact h.mono fun d _ hd => .inl hd
      · rw [e1]; exact ⟨_, _, rfl⟩
end
/-- Unalias -/
theorem c_gUnalias {K : Cfg} {s : Gs} {w : World} {i : Nat} {p : Nat → Prop} {v : Value} {t : Ty} (hD : ShapedD K.D) (hd : DclI K s w i) (he : ErrI K s w) (h : RT K s w p v t) (hi : Rdy K i t) :
    Calls Tryz.prog 116 #[v] w (Ret fun r w' => w = w' ∧ ∃ y, RT K s w (fun d => p d ∨ s.sl d) r y ∧ isAl K.D y = false ∧ unaliasT K.D t = norm y ∧ IsI r ∧ Rdy K i y) := by
  have no : ∀ (T b : Nat), v = .iface T (pt b) → Nat.beq T tAL = false → isAl K.D t = false → Calls Tryz.prog 116 #[v] w (Ret fun r w' => w = w' ∧ ∃ y, RT K s w (fun d => p d ∨ s.sl d) r y ∧ isAl K.D y = false ∧ unaliasT K.D t = norm y ∧ IsI r ∧ Rdy K i y) := fun T b hv hT ha => by
    subst hv
    exact (c_Unalias_no T _ w hT).mono fun e w' ⟨r, h1, h2, h3⟩ => ⟨r, h1, h3, t, by rw [h2]; exact h.mono fun d _ hd => .inl hd, ha, unalias_end ha, by rw [h2]; exact ⟨_, _, rfl⟩, hi⟩
  by_cases hk : t.kind = 1
  · obtain ⟨h0, h1, h2⟩ := hi hk
    have hel := List.getElem?_eq_getElem h1
    have hnm := h.nam hk
    cases ha : (K.D[t.n.toNat]).al
    · obtain ⟨b, ob, T, ub, ms, y, hv, k1, k2, k3, k4, k5, k6⟩ := hd.def_ hel h2 ha hnm
      exact no _ _ hv rfl (by rw [isAl_n hk hel]; exact ha)
    · obtain ⟨b, ob, T, c, v0, y, rfl, k1, k2, k3, k4, k5, k6, k7⟩ := hd.al_ hel h2 ha hnm
      exact (c_Unalias_yes b T c _ _ _ w k2).mono fun e w' ⟨r, e0, e1, e2⟩ => ⟨r, e0, e2, y, by rw [e1]; exact k4.mono fun d _ hd => .inr hd, k5, by rw [unalias_step hD hk hel ha, ← k6, unalias_step hD (tN_kind _) (by rw [tN_n, Int.toNat_natCast]; exact hel) ha], by rw [e1]; exact ⟨_, _, rfl⟩, fun hy => by
        obtain ⟨q0, q1⟩ := k7 hy
        exact ⟨q0, by omega, by omega⟩⟩
  · have ha := isAl_lit (D := K.D) hk
    by_cases hye : t.kind = 0 ∧ t.n = 20
    · obtain ⟨b2, ob2, u, ms, nm, q1, q2, q3, q4, q5⟩ := he
      have hv := h.err hye.1 hye.2
      rw [q1] at hv
      exact no _ _ hv rfl ha
    · obtain ⟨b2, hv, m1, m2⟩ := h.lit ⟨hk, hye⟩
      exact no _ _ hv (dynT_lit t).ne.1 ha
end Go.Proofs.YtelmnkfdpnkpoaaGreatDoor
namespace Go.Kd
/-- at a round of a loop -/
structure WLp (P : Program) (n : Nat) (c : Code) (Q : Post) (D : List Deferred) (e : Env) (w : World) : Prop where
  out : ∀ a, Fr n D e a → ∀ b k cs, ∃ x a' w', post n Q x a' w' ∧ Arrives P (lone (b.at a (.code c :: .inLoop c :: k)) cs w) b k cs x a' w'
section
variable {P : Program} {n : Nat} {Q : Post} {D : List Deferred} {e : Env} {w : World}
theorem W.loop1 {c : Code} (h : WLp P n c Q D e w) : W P n (.loop c) Q D e w := ⟨fun a ha b k cs => by
  obtain ⟨x, a', w', hq, harr⟩ := h.out a ha b k cs
  exact ⟨x, a', w', hq, .of_steps (.one step_loop) harr⟩⟩
/-- one round -/
theorem WLp.next {c : Code} (h : W P n c (thn (WLp P n c Q) Q) D e w) : WLp P n c Q D e w := ⟨fun a ha b k cs => by
  obtain ⟨x, a1, w1, hq, harr⟩ := h.out a ha b (.inLoop c :: k) cs
  cases x with
  | normal =>
    obtain ⟨D1, e1, hf1, h2⟩ := hq
    obtain ⟨x2, a2, w2, hq2, harr2⟩ := h2.out a1 hf1 b k cs
    exact ⟨x2, a2, w2, hq2, .of_steps (Steps.trans harr (.one step_inLoop)) harr2⟩
  | exit id => exact ⟨_, a1, w1, lift_exit hq, .pass (x := .inLoop c) rfl (fun _ _ => .inl (by simp)) harr⟩
  | goto l => exact ⟨_, a1, w1, lift_goto hq, .pass (x := .inLoop c) rfl (fun _ _ => .inl (by simp)) harr⟩
  | ret => exact ⟨_, a1, w1, lift_ret hq, .pass (x := .inLoop c) rfl (fun _ _ => .inl (by simp)) harr⟩
  | panic ch => exact hq.elim
  | outgrown => exact hq.elim⟩
end
end Go.Kd
namespace Go.Proofs.YtelmnkfdpnkpoaaGreatDoor
open Go Go.Kd
set_option maxRecDepth 100000

theorem c_assert (w : World) : Calls Tryz.prog 104 #[.bool true] w (Ret fun _ w' => w = w') := by
  refine W.enter (args := [.bool true]) Tryz.func104 rfl Tryz.ntmps104 rfl rfl ?_
  refine zst ?_
  exact fin0 (.inr rfl) rfl rfl
theorem AllT.open {w : World} {v : Value} (h : AllT w v) : ∃ g c tb cs, v = .slice (some ⟨g, 0, none⟩) 1 c ∧ w.cell? ⟨g, 0, none⟩ = some (pt tb) ∧ Has w g (.cells cs tTP) ∧ Has w tb (.cells #[.bool false, .nilIface] tTM) := by
  obtain ⟨a, c, tb, h1, h2, h3⟩ := h
  obtain ⟨g, cs, rfl, k1, k2⟩ := h2 0 (by omega)
  exact ⟨g, c, tb, cs, h1, cell_of k1 k2, k1, h3⟩
theorem c_isEmpty (v : Value) (w : World) (h : AllT w v) : Calls Tryz.prog 150 #[v] w (Ret fun r w' => r = .bool false ∧ w = w') := by
  obtain ⟨g, c, tb, cs, rfl, h1, _, h2⟩ := h.open
  refine W.enter (args := [.slice (some ⟨g, 0, none⟩) 1 c]) Tryz.func150 rfl Tryz.ntmps150 rfl rfl ?_
  refine zst ?_
  refine W.loop1 (WLp.next ?_)
  refine zst ?_
  rw [show decide ((0 : Int) < ((1 : Nat) : Int)) = true from rfl]
  refine zst ?_
  refine WU.yld rfl rfl rfl (yld_load_c rfl h1) ?_
  refine zst ?_
  exact fin1 (.inl rfl) rfl rfl ⟨rfl, rfl⟩
theorem c_isAll (v : Value) (w : World) (h : AllT w v) : Calls Tryz.prog 147 #[v] w (Ret fun r w' => r = .bool true ∧ w = w') := by
  obtain ⟨g, c, tb, cs, rfl, h1, _, h2⟩ := h.open
  refine W.enter (args := [.slice (some ⟨g, 0, none⟩) 1 c]) Tryz.func147 rfl Tryz.ntmps147 rfl rfl ?_
  refine zst ?_
  refine W.loop1 (WLp.next ?_)
  refine zst ?_
  rw [show decide ((0 : Int) < ((1 : Nat) : Int)) = true from rfl]
  refine zst ?_
  refine WU.yld rfl rfl rfl (yld_load_c rfl h1) ?_
  refine zst ?_
  exact fin1 (.inl rfl) rfl rfl ⟨rfl, rfl⟩
theorem c_tintersect (b b' : Nat) (w : World) (h : Has w b (.cells #[.bool false, .nilIface] tTM)) :
    Calls Tryz.prog 177 #[pt b, pt b'] w (Ret fun r w' => r = pt b' ∧ w = w') := by
  refine W.enter (args := [pt b, pt b']) Tryz.func177 rfl Tryz.ntmps177 rfl rfl ?_
  refine zst ?_
  exact fin1 (.inl rfl) rfl rfl ⟨rfl, rfl⟩
theorem c_tsubset (b b' : Nat) (w : World) (h' : Has w b' (.cells #[.bool false, .nilIface] tTM)) :
    Calls Tryz.prog 194 #[pt b, pt b'] w (Ret fun r w' => r = .bool true ∧ w = w') := by
  refine W.enter (args := [pt b, pt b']) Tryz.func194 rfl Tryz.ntmps194 rfl rfl ?_
  refine zst ?_
  exact fin1 (.inl rfl) rfl rfl ⟨rfl, rfl⟩
theorem c_superset (v : Value) (b : Nat) (w : World) (h : AllT w v) : Calls Tryz.prog 176 #[v, pt b] w (Ret fun r w' => r = .bool true ∧ w = w') := by
  obtain ⟨g, c, tb, cs, rfl, h1, _, h2⟩ := h.open
  refine W.enter (args := [.slice (some ⟨g, 0, none⟩) 1 c, pt b]) Tryz.func176 rfl Tryz.ntmps176 rfl rfl ?_
  refine zst ?_
  refine W.loop1 (WLp.next ?_)
  refine zst ?_
  rw [show decide ((0 : Int) < ((1 : Nat) : Int)) = true from rfl]
  refine zst ?_
  refine WU.yld rfl rfl rfl (yld_load_c rfl h1) ?_
  refine zst ?_
  refine WU.stp rfl rfl rfl (stp_call rfl (c_tsubset b tb w h2)) ?_
  rintro _ _ ⟨rfl, rfl⟩
  refine zst ?_
  exact fin1 (.inl rfl) rfl rfl ⟨rfl, rfl⟩
theorem c_subset (v v' : Value) (w : World) (h : AllT w v) (h' : AllT w v') : Calls Tryz.prog 154 #[v, v'] w (Ret fun r w' => r = .bool true ∧ w = w') := by
  obtain ⟨g', c', tb', cs', hv', _⟩ := h'.open
  obtain ⟨g, c, tb, cs, rfl, h1, _, h2⟩ := h.open
  subst hv'
  refine W.enter (args := [.slice (some ⟨g, 0, none⟩) 1 c, .slice (some ⟨g', 0, none⟩) 1 c']) Tryz.func154 rfl Tryz.ntmps154 rfl rfl ?_
  refine zst ?_
  refine WU.stp rfl rfl rfl (stp_call rfl (c_isEmpty _ w h')) ?_
  rintro _ _ ⟨rfl, rfl⟩
  refine zst ?_
  refine W.loop1 (WLp.next ?_)
  refine zst ?_
  rw [show decide ((0 : Int) < ((1 : Nat) : Int)) = true from rfl]
  refine zst ?_
  refine WU.yld rfl rfl rfl (yld_load_c rfl h1) ?_
  refine zst ?_
  refine WU.stp rfl rfl rfl (stp_call rfl (c_superset _ tb w h')) ?_
  rintro _ _ ⟨rfl, rfl⟩
  refine zst ?_
  refine WLp.next ?_
  refine zst ?_
  exact fin1 (.inl rfl) rfl rfl ⟨rfl, rfl⟩
theorem c_equal (v v' : Value) (w : World) (h : AllT w v) (h' : AllT w v') : Calls Tryz.prog 123 #[v, v'] w (Ret fun r w' => r = .bool true ∧ w = w') := by
  obtain ⟨g, c, tb, cs, hv, _⟩ := h.open
  obtain ⟨g', c', tb', cs', hv', _⟩ := h'.open
  subst hv hv'
  refine W.enter (args := [.slice (some ⟨g, 0, none⟩) 1 c, .slice (some ⟨g', 0, none⟩) 1 c']) Tryz.func123 rfl Tryz.ntmps123 rfl rfl ?_
  refine zst ?_
  refine WU.stp rfl rfl rfl (stp_call rfl (c_subset _ _ w h h')) ?_
  rintro _ _ ⟨rfl, rfl⟩
  refine zst ?_
  refine WU.stp rfl rfl rfl (stp_call rfl (c_subset _ _ w h' h)) ?_
  rintro _ _ ⟨rfl, rfl⟩
  refine zst ?_
  exact fin1 (.inl rfl) rfl rfl ⟨rfl, rfl⟩
theorem App.nil {w w' : World} {n c : Nat} (a : App w w' (.slice none n c)) : Ext w w' := ⟨⟨a.os, a.tape, a.output, a.size, fun d hd => a.block d hd fun e => by cases e⟩⟩
/-- a row of one term -/
def Row1 (w : World) (base : Nat) (v : Value) (tb : Nat) : Prop := ∃ g c cs, v = .slice (some ⟨g, 0, none⟩) 1 c ∧ base ≤ g ∧ Has w g (.cells cs tTP) ∧ cs[0]? = some (pt tb)
theorem Row1.ext {w w' : World} (x : Ext w w') {base : Nat} {v : Value} {tb : Nat} (h : Row1 w base v tb) : Row1 w' base v tb := by
  obtain ⟨g, c, cs, h1, h2, h3, h4⟩ := h
  exact ⟨g, c, cs, h1, h2, h3.ext' x, h4⟩
theorem Row1.all {w : World} {base : Nat} {v : Value} {tb : Nat} (h : Row1 w base v tb) (hb : Has w tb (.cells #[.bool false, .nilIface] tTM)) : AllT w v := by
  obtain ⟨g, c, cs, h1, _, h3, h4⟩ := h
  exact ⟨_, c, tb, h1, fun i hi => by obtain rfl : i = 0 := by omega
                                      exact ⟨g, cs, rfl, h3, h4⟩, hb⟩
theorem Row1.q {w : World} {base : Nat} {v : Value} {tb : Nat} (h : Row1 w base v tb) (hb : Has w tb (.cells #[.bool false, .nilIface] tTM)) {p : Nat → Prop} (hp : ∀ d, base ≤ d → p d) (hpt : p tb) : AllQ w p v := by
  obtain ⟨g, c, cs, h1, h2, h3, h4⟩ := h
  exact ⟨_, c, tb, h1, fun i hi => by obtain rfl : i = 0 := by omega
                                      exact ⟨g, cs, rfl, hp g h2, h3, h4⟩, hpt, hb⟩
theorem row1_own {w : World} {base tb : Nat} {v : Value} (h : Own w base tTP 1 v [[pt tb]]) : Row1 w base v tb := by
  obtain ⟨a, cp, h1, h2⟩ := Own.row1 (n := 1) (f := fun _ => pt tb) h
  obtain ⟨g, cs, k1, k2, _, k4, k5⟩ := h2 0 (by omega)
  exact ⟨g, cp, cs, by rw [h1, k1], k2, k4, k5⟩
theorem c_norm (v : Value) (base tb : Nat) (w : World) (h : Row1 w base v tb) (hb : Has w tb (.cells #[.bool false, .nilIface] tTM)) :
    Calls Tryz.prog 175 #[v] w (Ret fun r w' => Row1 w' w.heap.size r tb ∧ Ext w w') := by
  obtain ⟨g, c, cs, rfl, _, h1, h2⟩ := h
  have hc := cell_of h1 h2
  refine W.enter (args := [.slice (some ⟨g, 0, none⟩) 1 c]) Tryz.func175 rfl Tryz.ntmps175 rfl rfl ?_
  refine zst ?_
  refine WU.stp rfl rfl rfl (stp_makeSlice (n := 1) rfl rfl (by omega)) ?_
  rintro _ w1 ⟨b1, rfl, n1⟩
  have ib1 := n1.has
  have hb1 := hb.ext' n1.ext
  refine zst ?_
  refine W.loop1 (WLp.next ?_)
  refine zst ?_
  rw [show decide ((0 : Int) < ((1 : Nat) : Int)) = true from rfl]
  refine zst ?_
  refine WU.yld rfl rfl rfl (yld_load_c rfl (n1.ext.cell hc)) ?_
  refine zst ?_
  refine W.loop1 (WLp.next ?_)
  refine zst ?_
  refine WU.stp rfl rfl rfl (stp_buildSlice rfl rfl rfl rfl rfl) ?_
  rintro _ w2 ⟨b2, rfl, n2⟩
  refine WU.stp rfl rfl rfl (stp_append1 (el := tTP) rfl rfl (Own.nil w2 w.heap.size tTP 1) (Cells.has n2.has) rfl rfl (by omega) (by simp [Value.oneCell']) (by simp) (Nat.le_trans n1.ext.size n2.ext.size)) ?_
  rintro v' w3 ⟨o3, a3, _⟩
  refine zst ?_
  refine WLp.next ?_
  refine zst ?_
  exact fin1 (.inl rfl) rfl rfl ⟨row1_own o3, (n1.ext.trans n2.ext).trans (App.nil a3)⟩
theorem c_intersect (v v' : Value) (w : World) (p : Nat → Prop) (hp : ∀ d, w.heap.size ≤ d → p d) (h : AllT w v) (h' : AllQ w p v') :
    Calls Tryz.prog 156 #[v, v'] w (Ret fun r w' => AllQ w' p r ∧ Ext w w') := by
  obtain ⟨g, c, tb, cs, hv, h1, _, h2⟩ := h.open
  obtain ⟨a', c', tb', hv', h1', hpt, h2'⟩ := h'
  obtain ⟨g', cs', hg', _, k1, k2⟩ := h1' 0 (by omega)
  have hA' : AllT w v' := ⟨a', c', tb', hv', h1'.row, h2'⟩
  subst hv hv' hg'
  refine W.enter (args := [.slice (some ⟨g, 0, none⟩) 1 c, .slice (some ⟨g', 0, none⟩) 1 c']) Tryz.func156 rfl Tryz.ntmps156 rfl rfl ?_
  refine zst ?_
  refine WU.stp rfl rfl rfl (stp_call rfl (c_isEmpty _ w h)) ?_
  rintro _ _ ⟨rfl, rfl⟩
  refine zst ?_
  refine WU.stp rfl rfl rfl (stp_call rfl (c_isEmpty _ w hA')) ?_
  rintro _ _ ⟨rfl, rfl⟩
  refine zst ?_
  refine W.loop1 (WLp.next ?_)
  refine zst ?_
  rw [show decide ((0 : Int) < ((1 : Nat) : Int)) = true from rfl]
  refine zst ?_
  refine WU.yld rfl rfl rfl (yld_load_c rfl h1) ?_
  refine zst ?_
  refine W.loop1 (WLp.next ?_)
  refine zst ?_
  rw [show decide ((0 : Int) < ((1 : Nat) : Int)) = true from rfl]
  refine zst ?_
  refine WU.yld rfl rfl rfl (yld_load_c rfl (cell_of k1 k2)) ?_
  refine zst ?_
  refine WU.stp rfl rfl rfl (stp_call rfl (c_tintersect tb tb' w h2)) ?_
  rintro _ _ ⟨rfl, rfl⟩
  refine zst ?_
  refine WU.stp rfl rfl rfl (stp_buildSlice rfl rfl rfl rfl rfl) ?_
  rintro _ w2 ⟨b2, rfl, n2⟩
  refine WU.stp rfl rfl rfl (stp_append1 (el := tTP) rfl rfl (Own.nil w2 w.heap.size tTP 1) (Cells.has n2.has) rfl rfl (by omega) (by simp [Value.oneCell']) (by simp) n2.ext.size) ?_
  rintro v' w3 ⟨o3, a3, _⟩
  have x3 : Ext w w3 := n2.ext.trans (App.nil a3)
  have hr3 := row1_own o3
  obtain ⟨gr, cr, csr, rfl, _⟩ := hr3
  refine zst ?_
  refine WLp.next ?_
  refine zst ?_
  refine WLp.next ?_
  refine zst ?_
  refine WU.stp rfl rfl rfl (stp_call rfl (c_norm _ w.heap.size tb' w3 (row1_own o3) (h2'.ext' x3))) ?_
  rintro r w4 ⟨hr4, x4⟩
  refine zst ?_
  exact fin1 (.inl rfl) rfl rfl ⟨hr4.q ((h2'.ext' x3).ext' x4) (fun d hd => hp d (Nat.le_trans x3.size hd)) hpt, x3.trans x4⟩
theorem c_intersectTermLists (v v' : Value) (w : World) (p : Nat → Prop) (hp : ∀ d, w.heap.size ≤ d → p d) (h : AllT w v) (h' : AllQ w p v') :
    Calls Tryz.prog 133 #[v, .bool false, v', .bool false] w (Ret fun r w' => ∃ u, r = .tuple #[u, .bool false] ∧ AllQ w' p u ∧ Ext w w') := by
  obtain ⟨g, c, tb, cs, hv, _⟩ := h.open
  obtain ⟨g', c', tb', cs', hv', _⟩ := h'.all.open
  subst hv hv'
  refine W.enter (args := [.slice (some ⟨g, 0, none⟩) 1 c, .bool false, .slice (some ⟨g', 0, none⟩) 1 c', .bool false]) Tryz.func133 rfl Tryz.ntmps133 rfl rfl ?_
  refine zst ?_
  refine WU.stp rfl rfl rfl (stp_call rfl (c_intersect _ _ w p hp h h')) ?_
  rintro r w2 ⟨hr, x2⟩
  obtain ⟨g2, c2, tb2, cs2, hv2, _⟩ := hr.all.open
  subst hv2
  refine zst ?_
  refine WU.stp rfl rfl rfl (stp_call rfl (c_assert w2)) ?_
  rintro _ _ rfl
  refine zst ?_
  exact fin2 (.inl rfl) rfl rfl rfl ⟨_, rfl, hr, x2⟩
end Go.Proofs.YtelmnkfdpnkpoaaGreatDoor
namespace Go.Kd
variable {P : Program} {e : Env} {w : World} {d : Option Tmp} {ty t t2 : TypeId} {pos : String} {aft : Array Edge} {g : Option (Nat × Bool)} {x y z : Operand}
/-- a call of a function value that has captured variables -/
theorem stp_callc {f : Operand} {k : FuncId} {caps : List Value} {args : List Operand} {tys : Array TypeId} {vs : List Value} {R : Value → World → Prop} [h : Fun P k] (hf : ev e f = some (.func (.func k) #[] caps.toArray)) (ha : evs e args = some vs) (hc : Calls P k (vs ++ caps).toArray w (Ret R)) :
    Stp P e ⟨d, .call ⟨.value f, args.toArray, tys⟩, ty, pos, aft, g⟩ w R := ⟨fun ρ hρ => by
  obtain ⟨fn, h1, h2, h3⟩ := h.at_
  have hv : args.toArray.map ρ = vs.toArray := by rw [← evs_spec hρ args vs ha]; simp
  have hf' : ρ f = .func (.func k) #[] caps.toArray := hρ _ _ hf
  simp only [execOp, resolve, hv, hf', Deferred.ofValue, invoke, callFunc, program, bind, Sem.bind, Sem.run, pure, h1, h2, h3, Bool.false_eq_true, if_false, List.append_toArray]
  exact hc⟩

/-! ### Maps keyed by pointers -/
def PKeys (w : World) (tk : TypeId) (es : List MapEntry) : Prop := ∀ m ∈ es, ∃ a cs, m.key = .pointer (some a) ∧ Has w a.block (.cells cs tk (0, 0))
theorem run_asking_ptr {key tk : TypeId} [h : PtrT P key] {a : Addr} (ha : Pl w a.block) (es : List MapEntry) : ∀ (i : Nat), PKeys w tk es → ∃ q, (Instr.findAsking key (.pointer (some a)) es i).run P w = .ok q w ∧
    ∀ j v, q = some (j, v) → ∃ k m, j = i + k ∧ es[k]? = some m ∧ m.key = .pointer (some a) := by
  induction es with
  | nil => exact fun i _ => ⟨none, rfl, fun j v hj => by cases hj⟩
  | cons m r ih =>
    intro i hn
    obtain ⟨a', cs', h1, h2'⟩ := hn m (List.mem_cons_self ..)
    have h2 : Pl w a'.block := ⟨cs', tk, h2'.at_⟩
    obtain ⟨q, hq, hq2⟩ := ih (i + 1) fun m' hm' => hn m' (List.mem_cons_of_mem _ hm')
    have heq := run_equal_ptr (P := P) (t := key) (a := a) (b := a') ha h2
    by_cases hab : a = a'
    · subst hab
      refine ⟨some (i, m.val), ?_, fun j v hj => ?_⟩
      · rw [Instr.findAsking]
        simp only [h1, Sem.run_bind, heq, Result.andThen_ok, decide_true, if_true]
        rfl
      · simp only [Option.some.injEq, Prod.mk.injEq] at hj
        exact ⟨0, m, by omega, rfl, h1⟩
    · refine ⟨q, ?_, fun j v hj => ?_⟩
      · rw [Instr.findAsking]
        simp only [h1, Sem.run_bind, heq, Result.andThen_ok, decide_eq_false hab, Bool.false_eq_true, if_false]
        exact hq
      · obtain ⟨k, m', k1, k2, k3⟩ := hq2 j v hj
        exact ⟨k + 1, m', by omega, k2, k3⟩
theorem run_findKey_ptr {key tk : TypeId} [h : PtrT P key] {a : Addr} (ha : Pl w a.block) {es : List MapEntry} (hn : PKeys w tk es) : ∃ q, (Instr.findKey key (.pointer (some a)) es).run P w = .ok q w ∧ ∀ j v, q = some (j, v) → ∃ m, es[j]? = some m ∧ m.key = .pointer (some a) := by
  obtain ⟨el, i, h1, _⟩ := h.at_
  cases es with
  | nil =>
    refine ⟨none, ?_, fun j v hj => by cases hj⟩
    unfold Instr.findKey
    simp only [Sem.run_bind, run_underlying h1, Result.andThen_ok]
    rfl
  | cons m r =>
    obtain ⟨q, hq, hq2⟩ := run_asking_ptr (P := P) (key := key) ha (m :: r) 0 hn
    refine ⟨q, ?_, fun j v hj => ?_⟩
    · have : Instr.findNow (.pointer el) (.pointer (some a)) (m :: r) 0 = none := by simp [Instr.findNow, Instr.sameNow]
      unfold Instr.findKey
      simp only [Sem.run_bind, run_underlying h1, Result.andThen_ok, this]
      exact hq
    · obtain ⟨k, m', k1, k2, k3⟩ := hq2 j v hj
      exact ⟨m', by rw [k1, Nat.zero_add]; exact k2, k3⟩
theorem run_checkKey_ptr {key : TypeId} [h : PtrT P key] {emp : Bool} {v : Value} : (Instr.checkKey emp 10000 key v).run P w = .ok () w := by
  obtain ⟨el, i, h1, _⟩ := h.at_
  have hk : ∀ k : Nat, (Instr.checkKey emp (k + 1) key v).run P w = .ok () w := fun k => by
    rw [Instr.checkKey]
    simp [run_underlying h1]
  exact hk 9999
theorem run_stays {a : Option Addr} : (Instr.keyThatStays (.pointer a) (.pointer a)).run P w = .ok (.pointer a) w := by
  have hk : ∀ k : Nat, Instr.sameBits k (.pointer a) (.pointer a) = true := fun k => by unfold Instr.sameBits; simp
  unfold Instr.keyThatStays
  rw [hk]
  rfl
theorem PKeys.keep {w w' : World} {tk : TypeId} {es : List MapEntry} (h : PKeys w tk es) (hs : ∀ b cs, Has w b (.cells cs tk (0, 0)) → Has w' b (.cells cs tk (0, 0))) : PKeys w' tk es := fun m hm => by
  obtain ⟨a, cs, h1, h2⟩ := h m hm
  exact ⟨a, cs, h1, hs _ _ h2⟩
theorem stp_mapPtr {key el tk : TypeId} {a : Addr} {v : Value} {r : Nat} {es : Array MapEntry} {c : Nat} {ca : Array Value} [hm : Und P t (.map key el)] [h : PtrT P key]
    (hx : ev e x = some (.map (some r))) (hy : ev e y = some (.pointer (some a))) (hv : ev e z = some v) (hr : Has w r (.map es c)) (hha : Has w a.block (.cells ca tk (0, 0))) (hn : PKeys w tk es.toList) :
    Stp P e ⟨d, .mapUpdate t x y z, ty, pos, aft, g⟩ w (fun _ w' => ∃ es' c', Upd w r (.map es' c') w' ∧ PKeys w tk es'.toList) := ⟨fun ρ hρ => by
  have ha : Pl w a.block := ⟨ca, tk, hha.at_⟩
  obtain ⟨q, hq, hq2⟩ := run_findKey_ptr (P := P) (key := key) ha hn
  cases q with
  | none =>
    have hu := Upd.setMap (es' := es.push ⟨.pointer (some a), v, c⟩) (c' := c + 1) hr
    simp [execOp, hρ x _ hx, hρ y _ hy, hρ z _ hv, Instr.mapUpdate, Sem.run_bind, run_underlying hm.at_, run_checkKey_ptr (P := P) (w := w) (key := key), hq, run_getMap hr.at_, run_setMap _ hr.at_]
    refine ⟨_, ⟨_, hu⟩, fun m hm' => ?_⟩
    rw [Array.toList_push] at hm'
    rcases List.mem_append.1 hm' with h1 | h1
    · exact hn m h1
    · simp at h1; subst h1; exact ⟨a, ca, rfl, hha⟩
  | some jv =>
    obtain ⟨j, v0⟩ := jv
    obtain ⟨m, h1, h2⟩ := hq2 j v0 rfl
    have h3 : ((es[j]?).map (·.key)).getD (.pointer (some a)) = .pointer (some a) := by
      rw [← Array.getElem?_toList, h1]
      exact h2
    have hu := Upd.setMap (es' := es.modify j fun e => { e with key := .pointer (some a), val := v }) (c' := c) hr
    simp [execOp, hρ x _ hx, hρ y _ hy, hρ z _ hv, Instr.mapUpdate, Sem.run_bind, run_underlying hm.at_, run_checkKey_ptr (P := P) (w := w) (key := key), hq, run_getMap hr.at_, run_setMap _ hr.at_, h3, run_stays]
    refine ⟨_, ⟨_, hu⟩, fun m hm' => ?_⟩
    obtain ⟨i, hi⟩ := List.getElem?_of_mem hm'
    rw [Array.getElem?_toList, Array.getElem?_modify] at hi
    by_cases hji : j = i
    · subst hji
      rw [if_pos rfl] at hi
      cases hes : es[j]? with
      | none => rw [hes] at hi; cases hi
      | some m0 =>
        rw [hes] at hi
        simp at hi
        subst hi
        exact ⟨a, ca, rfl, hha⟩
    · rw [if_neg hji] at hi
      exact hn m (by rw [← Array.getElem?_toList] at hi; exact List.mem_of_getElem? hi)⟩
end Go.Kd
namespace Go.Proofs.YtelmnkfdpnkpoaaGreatDoor
open Go Go.Kd
set_option maxRecDepth 100000

theorem Has.tne {w : World} {b b' : Nat} {cs cs' : Array Value} {t t' : TypeId} (h : Has w b (.cells cs t (0, 0))) (k : Has w b' (.cells cs' t' (0, 0))) (ht : t ≠ t') : b ≠ b' := fun e => by
  subst e
  have := h.at_.symm.trans k.at_
  simp only [Option.some.injEq, Obj.cells.injEq] at this
  exact ht this.2.1
theorem Has.mne {w : World} {b b' : Nat} {cs : Array Value} {t : TypeId} {es : Array MapEntry} {c : Nat} (h : Has w b (.cells cs t (0, 0))) (k : Has w b' (.map es c)) : b ≠ b' := fun e => by
  subst e
  have := h.at_.symm.trans k.at_
  cases this
abbrev tMS : Nat := 130
abbrev tMP : Nat := 233
theorem OSet.hasps {w : World} {base ps : Nat} {l : List (List UInt8 × Value)} (h : OSet w base ps l) : ∃ m, Has w ps (.cells #[m] tOS) := by
  rcases h.at_ with ⟨h1, _⟩ | ⟨r, es, c, _, _, h3, _⟩
  · exact ⟨_, h1⟩
  · exact ⟨_, h3⟩
/-- what the function that adds methods works on: the set of names, the methods, their places -/
structure AM (w : World) (base ps pa pp rr : Nat) (l : List (List UInt8 × Value)) (v : Value) (fbs : List Nat) : Prop where
  os : OSet w base ps l
  al : Has w pa (.cells #[v] tMS)
  ow : Own w base tFN 1 v (fbs.map fun b => [pt b])
  mp : Has w pp (.cells #[.map (some rr)] tMP)
  mm : ∃ es c, Has w rr (.map es c) ∧ PKeys w tFU es.toList
  ba : base ≤ pa
  br : base ≤ rr
theorem pkeys_sm {w : World} {tk : TypeId} {es : List MapEntry} {l : List (List UInt8 × Value)} (h : PKeys w tk es) (k : SM es l) : l = [] := by
  cases l with
  | nil => rfl
  | cons p q =>
    cases es with
    | nil => exact k.elim
    | cons m r =>
      obtain ⟨a, _, h1, _⟩ := h m (List.mem_cons_self ..)
      obtain ⟨⟨s, h2, _⟩, _⟩ := k
      rw [h1] at h2
      cases h2
/-- what is not worked on stays -/
def AKept (w w' : World) (ps pa : Nat) (v : Value) : Prop := ∀ (d : Nat) (o : Obj), w.heap[d]? = some o → d ≠ ps → d ≠ pa → v.ownBlock ≠ some d → (∀ es c, o ≠ Obj.map es c) → w'.heap[d]? = some o
theorem Own.cellsOf {w : World} {base el sz : Nat} {v : Value} {ls : List (List Value)} (h : Own w base el sz v ls) : ∀ k, v.ownBlock = some k → ∃ cs, Has w k (.cells cs el) := fun k hk => by
  rcases h.row.2 with ⟨h1, _⟩ | ⟨g, cap, cur, h1, _, h3, _⟩
  · rw [h1] at hk; cases hk
  · rw [h1] at hk
    cases hk
    exact ⟨cur, ⟨h3⟩⟩
theorem AM.kept {w w' : World} {base ps pa pp rr : Nat} {l : List (List UInt8 × Value)} {v : Value} {fbs : List Nat} (h : AM w base ps pa pp rr l v fbs) (hk : ∀ (d : Nat) (o : Obj), w.heap[d]? = some o → (∀ cs t, o = Obj.cells cs t (0, 0) → t ≠ tIF ∧ t ≠ tTS) → w'.heap[d]? = some o) : AM w' base ps pa pp rr l v fbs := by
  have hc : ∀ {d t : Nat} {cs : Array Value}, t ≠ tIF ∧ t ≠ tTS → Has w d (.cells cs t) → Has w' d (.cells cs t) := fun ht h => ⟨hk _ _ h.at_ fun cs' t' e => by
    cases e; exact ht⟩
  have hm : ∀ {d : Nat} {es : Array MapEntry} {c : Nat}, Has w d (.map es c) → Has w' d (.map es c) := fun h => ⟨hk _ _ h.at_ fun cs' t' e => by cases e⟩
  obtain ⟨es, c, h1, h2⟩ := h.mm
  refine ⟨⟨h.os.bs, h.os.ifs, ?_⟩, hc (by decide) h.al, h.ow.kept fun k hk' => ?_, hc (by decide) h.mp, ⟨es, c, hm h1, h2.keep fun b cs h => hc (by decide) h⟩, h.ba, h.br⟩
  · rcases h.os.at_ with ⟨k1, k2⟩ | ⟨r, es', c', k1, k2, k3, k4, k5⟩
    · exact .inl ⟨hc (by decide) k1, k2⟩
    · exact .inr ⟨r, es', c', k1, k2, hc (by decide) k3, hm k4, k5⟩
  · obtain ⟨cs, k1⟩ := Own.cellsOf h.ow k hk'
    exact (hc (by decide) k1).at_.trans k1.at_.symm
theorem OSet.updP {w w' : World} {base ps : Nat} {l : List (List UInt8 × Value)} (h : OSet w base ps l) (hl : l ≠ []) {b tk : Nat} {es : Array MapEntry} {c : Nat} {o : Obj} (hb : Has w b (.map es c)) (hp : PKeys w tk es.toList) (u : Upd w b o w') (hne : b ≠ ps) : OSet w' base ps l := ⟨h.bs, h.ifs, by
  rcases h.at_ with ⟨_, h2⟩ | ⟨r, es', c', h1, h2, h3, h4, h5, h6⟩
  · exact absurd h2 hl
  · refine .inr ⟨r, es', c', h1, h2, ⟨(u.oth _ (Ne.symm hne)).trans h3.at_⟩, ⟨(u.oth _ fun e => ?_).trans h4.at_⟩, h5, h6⟩
    subst e
    have := hb.at_.symm.trans h4.at_
    simp only [Option.some.injEq, Obj.map.injEq] at this
    rw [← this.1] at h5
    exact hl (pkeys_sm hp h5)⟩
theorem OSet.app {w w' : World} {base ps base' : Nat} {l : List (List UInt8 × Value)} {v : Value} {ls : List (List Value)} (h : OSet w base ps l) (a : App w w' v) (ho : Own w base' tFN 1 v ls) : OSet w' base ps l := ⟨h.bs, h.ifs, by
  rcases h.at_ with ⟨h1, h2⟩ | ⟨r, es', c', h1, h2, h3, h4, h5⟩
  · exact .inl ⟨Has.app (el := tFN) a ho h1 (by decide), h2⟩
  · exact .inr ⟨r, es', c', h1, h2, Has.app (el := tFN) a ho h3 (by decide), App.keep a h4 (fun k hk => by
      obtain ⟨cs, k1⟩ := Own.cellsOf ho k hk
      exact Has.mne k1 h4), h5⟩⟩

set_option maxHeartbeats 2000000 in
theorem c_addM (base ps pa pp rr b : Nat) (l : List (List UInt8 × Value)) (v : Value) (fbs : List Nat) (pos : Int) (ex : Bool) (pk : Value) (nm path : ByteArray) (vv : Value) (w : World) (h : AM w base ps pa pp rr l v fbs) (hb : base ≤ w.heap.size)
    (hp : Prp w) (hf : FuncV w b pk nm vv) (hk : PkV w nm pk path) (ha : Asc nm) (hz : path.size + nm.size ≤ 4611686018427387904) (hlen : fbs.length ≤ 1073741824) :
    Calls Tryz.prog 131 #[.int .i64 pos, pt b, .bool ex, pt ps, pt pa, pt pp] w (Ret fun _ w' => RowKit.Below base w w' ∧ ∃ l' v' fbs', AM w' base ps pa pp rr l' v' fbs' ∧ AKept w w' ps pa v ∧ (∀ g, v'.ownBlock = some g → v.ownBlock = some g ∨ w.heap.size ≤ g) ∧
      (((∃ p ∈ l, p.1 = idS nm.toList path.toList) ∧ l' = l ∧ fbs' = fbs) ∨ ((∀ p ∈ l, p.1 ≠ idS nm.toList path.toList) ∧ l' = l ++ [(idS nm.toList path.toList, .iface tFN (pt b))] ∧ fbs' = fbs ++ [b]))) := by
  obtain ⟨mv, hps⟩ := h.os.hasps
  have hal := h.al
  have hmp := h.mp
  obtain ⟨es, c, hrr, hpk⟩ := h.mm
  have hpaps : pa ≠ ps := Has.tne hal hps (by decide)
  have hppps : pp ≠ ps := Has.tne hmp hps (by decide)
  have hrrps : rr ≠ ps := Ne.symm (Has.mne hps hrr)
  have hpppa : pp ≠ pa := Has.tne hmp hal (by decide)
  have hrrpa : rr ≠ pa := Ne.symm (Has.mne hal hrr)
  have hrrpp : rr ≠ pp := Ne.symm (Has.mne hmp hrr)
  refine W.enter (args := [.int .i64 pos, pt b, .bool ex, pt ps, pt pa, pt pp]) Tryz.func131 rfl Tryz.ntmps131 rfl rfl ?_
  refine zst ?_
  refine WU.stp rfl rfl rfl (stp_call rfl (c_insert tFN base ps b l pk nm path vv w h.os hb hp hf.obj hk ha hz)) ?_
  rintro r w1 ⟨bl, hcase, hkp⟩
  have keepC : ∀ {d t : Nat} {cs : Array Value}, d ≠ ps → Has w d (.cells cs t) → Has w1 d (.cells cs t) := fun hd h => ⟨hkp _ _ h.lt hd h.at_ fun es c e => by cases e⟩
  have hal1 := keepC hpaps hal
  have hmp1 := keepC hppps hmp
  have hrr1 : Has w1 rr (.map es c) := ⟨hkp _ _ hrr.lt hrrps hrr.at_ fun es' c' e hl hsm => by
    cases e
    exact hl (pkeys_sm hpk hsm)⟩
  have hownps : ∀ k, v.ownBlock = some k → k ≠ ps := fun k hk' e => by
    obtain ⟨cs, k1⟩ := Own.cellsOf h.ow k hk'
    exact Has.tne k1 hps (by decide) e
  have how1 : Own w1 base tFN 1 v (fbs.map fun b => [pt b]) := h.ow.kept fun k hk' => by
    obtain ⟨cs, k1⟩ := Own.cellsOf h.ow k hk'
    exact (keepC (hownps k hk') k1).at_.trans k1.at_.symm
  have fu1 : ∀ d cs, Has w d (.cells cs tFU (0, 0)) → Has w1 d (.cells cs tFU (0, 0)) := fun d cs hd => keepC (Has.tne hd hps (by decide)) hd
  have kept1 : ∀ d o, w.heap[d]? = some o → d ≠ ps → (∀ es c, o ≠ Obj.map es c) → w1.heap[d]? = some o := fun d o ho hd hm => hkp d o (Array.getElem?_eq_some_iff.1 ho).1 hd ho fun es c e => absurd e (hm es c)
  have hb1 : base ≤ w1.heap.size := Nat.le_trans hb bl.size
  rcases hcase with ⟨hin, ⟨T', v', rfl⟩, hO⟩ | ⟨hno, rfl, hO⟩
  · have fin : RowKit.Below base w w1 ∧ ∃ l' v' fbs', AM w1 base ps pa pp rr l' v' fbs' ∧ AKept w w1 ps pa v ∧ (∀ g, v'.ownBlock = some g → v.ownBlock = some g ∨ w.heap.size ≤ g) ∧
      (((∃ p ∈ l, p.1 = idS nm.toList path.toList) ∧ l' = l ∧ fbs' = fbs) ∨ ((∀ p ∈ l, p.1 ≠ idS nm.toList path.toList) ∧ l' = l ++ [(idS nm.toList path.toList, .iface tFN (pt b))] ∧ fbs' = fbs ++ [b])) :=
      ⟨bl, l, v, fbs, ⟨hO, hal1, how1, hmp1, ⟨es, c, hrr1, hpk.keep fu1⟩, h.ba, h.br⟩, fun d o ho h1 _ _ h4 => kept1 d o ho h1 h4, fun g hg => .inl hg, .inl ⟨hin, rfl, rfl⟩⟩
    cases ex
    · refine zst ?_
      exact fin0 (.inr rfl) rfl fin
    · refine zst ?_
      exact fin0 (.inr rfl) rfl fin
  · refine zst ?_
    refine WU.stp rfl rfl rfl (stp_buildSlice rfl rfl rfl rfl rfl) ?_
    rintro _ w2 ⟨b2, rfl, n2⟩
    have hal2 := hal1.ext' n2.ext
    have hmp2 := hmp1.ext' n2.ext
    have hrr2 := hrr1.ext' n2.ext
    have how2 := how1.ext n2.ext
    have hb2 : base ≤ w2.heap.size := Nat.le_trans hb1 n2.ext.size
    refine WU.stp rfl rfl rfl (stp_append1 (el := tFN) rfl rfl how2 (Cells.has n2.has) rfl rfl (by omega) (by simp [Value.oneCell']) (by rw [List.length_map]; exact hlen) hb2) ?_
    rintro v' w3 ⟨o3, a3, g3⟩
    have keep3 : ∀ d, d < w2.heap.size → v.ownBlock ≠ some d → w3.heap[d]? = w2.heap[d]? := fun d hd hne => a3.block d hd fun e => hne e.symm
    have hal3 : Has w3 pa (.cells #[v] tMS) := Has.app (el := tFN) a3 how2 hal2 (by decide)
    have hmp3 : Has w3 pp (.cells #[.map (some rr)] tMP) := Has.app (el := tFN) a3 how2 hmp2 (by decide)
    have hownC : ∀ k, v.ownBlock = some k → ∃ cs, Has w2 k (.cells cs tFN) := Own.cellsOf how2
    have hrr3 : Has w3 rr (.map es c) := ⟨(keep3 rr hrr2.lt fun e => by
      obtain ⟨cs, k1⟩ := hownC rr e
      have := hrr2.at_.symm.trans k1.at_
      cases this).trans hrr2.at_⟩
    obtain ⟨sa, scp, hsh, _, _⟩ := o3.shape
    subst hsh
    refine zst ?_
    refine WU.stp0 rfl rfl (stp_store_cell rfl rfl rfl rfl) ?_
    rintro _ w4 u4
    have hmp4 : Has w4 pp (.cells #[.map (some rr)] tMP) := ⟨(u4.oth pp hpppa).trans hmp3.at_⟩
    have hrr4 : Has w4 rr (.map es c) := ⟨(u4.oth rr hrrpa).trans hrr3.at_⟩
    have hal4 := u4.has
    have fu4 : ∀ d cs, Has w d (.cells cs tFU (0, 0)) → Has w4 d (.cells cs tFU (0, 0)) := fun d cs hd => by
      have h3 := Has.app (el := tFN) a3 how2 ((fu1 d cs hd).ext' n2.ext) (by decide)
      exact ⟨(u4.oth d (Has.tne h3 hal3 (by decide))).trans h3.at_⟩
    refine zst ?_
    refine WU.stp0 rfl rfl (stp_mapPtr (tk := tFU) rfl rfl rfl hrr4 (fu4 b _ hf) (hpk.keep fu4)) ?_
    rintro _ w5 ⟨es', c', u5, hpk5⟩
    refine zst ?_
    have hne5 : ∀ d cs (t : Nat), Has w4 d (.cells cs t) → d ≠ rr := fun d cs t hd => Has.mne hd hrr4
    have hO3 := (hO.ext n2.ext).app a3 how2
    have hO4 := hO3.upd u4 hpaps fun es c h => by
      have := hal3.at_.symm.trans h.at_
      cases this
    have hO5 := hO4.updP (by simp) hrr4 (hpk.keep fu4) u5 hrrps
    have hown4 : ∀ k, (Value.slice sa _ scp).ownBlock = some k → k ≠ pa := fun k hk e => by
      obtain ⟨cs, k1⟩ := Own.cellsOf o3 k hk
      exact Has.tne k1 hal3 (by decide) e
    have o4 := o3.upd u4 hown4
    have o5 := o4.upd u5 fun k hk => by
      obtain ⟨cs, k1⟩ := Own.cellsOf o4 k hk
      exact hne5 k cs _ k1
    have bel2 : RowKit.Below base w w2 := bel_new bl n2 hb1
    have bel3 : RowKit.Below base w2 w3 := ⟨a3.os, a3.tape, a3.output, a3.size, fun k hk => a3.block k (by omega) fun e => by have := (how2.lt k e.symm).1; omega⟩
    refine fin0 (.inr rfl) rfl ⟨bel_upd (bel_upd (bel2.trans bel3) u4 h.ba) u5 h.br, _, _, _, ⟨hO5, ⟨(u5.oth pa (Ne.symm hrrpa)).trans hal4.at_⟩, by rw [List.map_append]; exact o5, ⟨(u5.oth pp (Ne.symm hrrpp)).trans hmp4.at_⟩, ⟨es', c', u5.has, hpk5.keep fun d cs h => ⟨(u5.oth d (hne5 d cs _ h)).trans h.at_⟩⟩, h.ba, h.br⟩, fun d o ho h1 h2 h3 h4 => ?_, fun g hg => (g3 g hg).imp id fun h => ?_, .inr ⟨hno, rfl, rfl⟩⟩
    · have k1 := kept1 d o ho h1 h4
      have hlt1 := (Array.getElem?_eq_some_iff.1 k1).1
      have k2 : w2.heap[d]? = some o := (n2.ext.below.block d hlt1).trans k1
      have k3 : w3.heap[d]? = some o := (keep3 d (Nat.lt_of_lt_of_le hlt1 n2.ext.size) h3).trans k2
      have k4 : w4.heap[d]? = some o := (u4.oth d h2).trans k3
      refine (u5.oth d fun e => ?_).trans k4
      subst e
      exact h4 _ _ (Option.some.inj (k4.symm.trans hrr4.at_))
    · have := n2.ext.size
      have := bl.size
      omega
end Go.Proofs.YtelmnkfdpnkpoaaGreatDoor
namespace Go.Proofs.YtelmnkfdpnkpoaaGreatDoor
open Go Go.Kd
set_option maxRecDepth 100000

/-- no alias: what the value's dynamic type is -/
theorem RT.noAl {K : Cfg} {s : Gs} {w : World} {i : Nat} {p : Nat → Prop} {v : Value} {t : Ty} (hd : DclI K s w i) (he : ErrI K s w) (h : RT K s w p v t) (hi : Rdy K i t) (ha : isAl K.D t = false) : ∃ T b, v = .iface T (pt b) ∧ (litT T ∨ T = tNP) := by
  by_cases hk : t.kind = 1
  · obtain ⟨h0, h1, h2⟩ := hi hk
    have hel := List.getElem?_eq_getElem h1
    obtain ⟨b, ob, T, ub, ms, y, rfl, _⟩ := hd.def_ hel h2 (by rw [← isAl_n hk hel]; exact ha) (h.nam hk)
    exact ⟨_, b, rfl, .inr rfl⟩
  · by_cases hye : t.kind = 0 ∧ t.n = 20
    · obtain ⟨b2, ob2, u, ms, nm, q1, _⟩ := he
      exact ⟨_, b2, (h.err hye.1 hye.2).trans q1, .inr rfl⟩
    · obtain ⟨b2, hv, _⟩ := h.lit ⟨hk, hye⟩
      exact ⟨_, b2, hv, .inl (dynT_lit t)⟩
theorem c_isTypeParam {K : Cfg} {s : Gs} {w : World} {i : Nat} {p : Nat → Prop} {v : Value} {t : Ty} (hD : ShapedD K.D) (hd : DclI K s w i) (he : ErrI K s w) (h : RT K s w p v t) (hi : Rdy K i t) :
    Calls Tryz.prog 112 #[v] w (Ret fun r w' => r = .bool false ∧ w = w') := by
  refine W.enter (args := [v]) Tryz.func112 rfl Tryz.ntmps112 rfl rfl ?_
  refine zst ?_
  refine WU.stp rfl rfl rfl (stp_call rfl (c_gUnalias hD hd he h hi)) ?_
  rintro r _ ⟨rfl, y, k1, k2, k3, k4, k5⟩
  obtain ⟨T, c, rfl, hT⟩ := k1.noAl hd he k5 k2
  have hT2 : Nat.beq T 228 = false := by
    rcases hT with h | rfl
    · exact h.ne.2.2.1
    · rfl
  refine zst ?_
  exact fin1 (.inl rfl) rfl rfl ⟨rfl, rfl⟩

/-- what is collected: methods, their blocks, the names in the set -/
structure Col (K : Cfg) (s : Gs) (w : World) (out : List Mt) (fbs : List Nat) (l : List (List UInt8 × Value)) : Prop where
  len : fbs.length = out.length
  ids : l.map Prod.fst = out.map fun m => idS m.name.toList (pth m.pkg).toList
  ms : ∀ (i : Nat) m f, out[i]? = some m → fbs[i]? = some f → MthO K s w s.sl m f
  nd : (out.map keyM).Nodup
theorem Col.nil (K : Cfg) (s : Gs) (w : World) : Col K s w [] [] [] := ⟨rfl, rfl, fun i m f h => by simp at h, by simp⟩
theorem Col.tr {K : Cfg} {s : Gs} {w w' : World} (y : Tr K w w' s.sl s.sl) {out : List Mt} {fbs : List Nat} {l : List (List UInt8 × Value)} (h : Col K s w out fbs l) : Col K s w' out fbs l := ⟨h.len, h.ids, fun i m f h1 h2 => (h.ms i m f h1 h2).tr y, h.nd⟩
theorem MthO.id {K : Cfg} {s : Gs} {w : World} {p : Nat → Prop} {m : Mt} {f : Nat} (h : MthO K s w p m f) : Ident m.name.toList ∧ (m.pkg = 0 ∨ m.pkg = 1) ∧ m.name.size ≤ Big := by
  obtain ⟨pk, sv, _, _, _, _, _, h6, h7, h8⟩ := h
  exact ⟨h6, h7, h8⟩
theorem Col.mem {K : Cfg} {s : Gs} {w : World} {out : List Mt} {fbs : List Nat} {l : List (List UInt8 × Value)} (h : Col K s w out fbs l) : ∀ m ∈ out, Ident m.name.toList ∧ (m.pkg = 0 ∨ m.pkg = 1) ∧ m.name.size ≤ Big := fun m hm => by
  obtain ⟨i, hi⟩ := List.getElem?_of_mem hm
  have hlt : i < fbs.length := by rw [h.len]; exact (List.getElem?_eq_some_iff.1 hi).1
  exact (h.ms i m _ hi (List.getElem?_eq_getElem hlt)).id
theorem Col.has {K : Cfg} {s : Gs} {w : World} {out : List Mt} {fbs : List Nat} {l : List (List UInt8 × Value)} (h : Col K s w out fbs l) {m : Mt} {f : Nat} (hm : MthO K s w s.sl m f) : (∃ p ∈ l, p.1 = idS m.name.toList (pth m.pkg).toList) ↔ keyM m ∈ out.map keyM := by
  obtain ⟨i1, i2, _⟩ := hm.id
  constructor
  · rintro ⟨p, hp, he⟩
    have h1 : p.1 ∈ l.map Prod.fst := List.mem_map_of_mem hp
    rw [h.ids] at h1
    obtain ⟨m', hm', he'⟩ := List.mem_map.1 h1
    obtain ⟨j1, j2, _⟩ := h.mem m' hm'
    have := (idS_key j1 i1 j2 i2).1 (he'.trans he)
    rw [← this]
    exact List.mem_map_of_mem hm'
  · intro hk
    obtain ⟨m', hm', he'⟩ := List.mem_map.1 hk
    obtain ⟨j1, j2, _⟩ := h.mem m' hm'
    have h1 : idS m'.name.toList (pth m'.pkg).toList ∈ l.map Prod.fst := by rw [h.ids]; exact List.mem_map_of_mem hm'
    obtain ⟨p, hp, he⟩ := List.mem_map.1 h1
    exact ⟨p, hp, he.trans ((idS_key j1 i1 j2 i2).2 he')⟩
theorem Col.add {K : Cfg} {s : Gs} {w : World} {out : List Mt} {fbs : List Nat} {l : List (List UInt8 × Value)} (h : Col K s w out fbs l) {m : Mt} {f : Nat} (hm : MthO K s w s.sl m f) (v : Value) :
    ((∃ p ∈ l, p.1 = idS m.name.toList (pth m.pkg).toList) → Col K s w (addM out m) fbs l) ∧ ((∀ p ∈ l, p.1 ≠ idS m.name.toList (pth m.pkg).toList) → Col K s w (addM out m) (fbs ++ [f]) (l ++ [(idS m.name.toList (pth m.pkg).toList, v)])) := by
  have hh := h.has hm
  rcases addM_spec out m with ⟨h1, h2⟩ | ⟨h1, h2⟩
  · refine ⟨fun _ => by rw [h1]; exact h, fun hno => ?_⟩
    obtain ⟨p, hp, he⟩ := hh.2 h2
    exact absurd he (hno p hp)
  · refine ⟨fun hin => absurd (hh.1 hin) h2, fun _ => ?_⟩
    rw [h1]
    refine ⟨by rw [List.length_append, List.length_append, h.len]; rfl, by rw [List.map_append, List.map_append, h.ids]; rfl, fun i m' f' hi hf => ?_, ?_⟩
    · by_cases hlt : i < out.length
      · rw [List.getElem?_append_left hlt] at hi
        rw [List.getElem?_append_left (by rw [h.len]; exact hlt)] at hf
        exact h.ms i m' f' hi hf
      · rw [List.getElem?_append_right (by omega)] at hi
        rw [List.getElem?_append_right (by rw [h.len]; omega), h.len] at hf
        have h0 : i - out.length = 0 := by
          have := (List.getElem?_eq_some_iff.1 hi).1
          simp at this
          omega
        rw [h0] at hi hf
        simp at hi hf
        subst hi hf
        exact hm
    · rw [List.map_append, List.nodup_append]
      refine ⟨h.nd, by simp, fun a ha b hb => ?_⟩
      simp at hb
      subst hb
      exact fun e => h2 (e ▸ ha)
set_option maxHeartbeats 1000000 in
theorem c_addC (K : Cfg) (s : Gs) (base ps pa pp rr f : Nat) (l : List (List UInt8 × Value)) (v : Value) (fbs : List Nat) (out : List Mt) (m : Mt) (pos : Int) (ex : Bool) (w : World) (h : AM w base ps pa pp rr l v fbs) (hb : base ≤ w.heap.size)
    (hp : Prp w) (hpg : PkgOK s w) (hc : Col K s w out fbs l) (hm : MthO K s w s.sl m f) (hsl : ∀ d, s.sl d → d < base) (hlen : out.length ≤ 1073741824) :
    Calls Tryz.prog 131 #[.int .i64 pos, pt f, .bool ex, pt ps, pt pa, pt pp] w (Ret fun _ w' => RowKit.Below base w w' ∧ ∃ l' v' fbs', AM w' base ps pa pp rr l' v' fbs' ∧ Col K s w' (addM out m) fbs' l' ∧ AKept w w' ps pa v ∧
      ∀ g, v'.ownBlock = some g → v.ownBlock = some g ∨ w.heap.size ≤ g) := by
  obtain ⟨pk, sv, k1, k2⟩ := hm.pkv hpg
  obtain ⟨i1, i2, i3⟩ := hm.id
  replace i3 : m.name.size ≤ 268435456 := i3
  refine (c_addM base ps pa pp rr f l v fbs pos ex pk m.name (pth m.pkg) sv w h hb hp k1 k2 i1.asc (by rw [pth_size]; omega) (by rw [hc.len]; exact hlen)).mono ?_
  rintro e w' ⟨r, he, bl, l', v', fbs', hA, hK, hg, hcase⟩
  have y : Tr K w w' s.sl s.sl := .sameM (fun d hd => bl.block d (hsl d hd)) fun _ h => h
  refine ⟨r, he, bl, l', v', fbs', hA, ?_, hK, hg⟩
  rcases hcase with ⟨h1, rfl, rfl⟩ | ⟨h1, rfl, rfl⟩
  · exact ((hc.add hm (.iface tFN (pt f))).1 h1).tr y
  · exact ((hc.add hm (.iface tFN (pt f))).2 h1).tr y

/-- blocks that are not worked on -/
def PX (p : Nat → Prop) (tb ps pa : Nat) (v : Value) (d : Nat) : Prop := p d ∧ d ≠ tb ∧ d ≠ ps ∧ d ≠ pa ∧ v.ownBlock ≠ some d
theorem PX.tr {K : Cfg} {w w' : World} {p : Nat → Prop} {tb ps pa : Nat} {v v' : Value} (hK : AKept w w' ps pa v) (hg : ∀ g, v'.ownBlock = some g → v.ownBlock = some g ∨ w.heap.size ≤ g) : Tr K w w' (PX p tb ps pa v) (PX p tb ps pa v') := ⟨fun b cs t ⟨h1, h2, h3, h4, h5⟩ _ h => by
  have hlt := h.lt
  exact ⟨⟨h1, h2, h3, h4, fun e => (hg b e).elim h5 fun h => by omega⟩, cs, ⟨hK b _ h.at_ h3 h4 h5 fun es c e => by cases e⟩, .rfl' ..⟩⟩
theorem AKept.ifn {w w' : World} {ps pa c base : Nat} {v : Value} {m : Value} {ls : List (List Value)} (hK : AKept w w' ps pa v) (hps : Has w ps (.cells #[m] tOS)) (hpa : Has w pa (.cells #[v] tMS)) (ho : Own w base tFN 1 v ls) (h : IfN w c) : IfN w' c := by
  obtain ⟨ma, mn, mc', ea, en, ec, h⟩ := h
  exact ⟨ma, mn, mc', ea, en, ec, ⟨hK c _ h.at_ (Has.tne h hps (by decide)) (Has.tne h hpa (by decide)) (fun e => Own.ne ho h (by decide) c e rfl) fun es c e => by cases e⟩⟩
end Go.Proofs.YtelmnkfdpnkpoaaGreatDoor
namespace Go.Proofs.YtelmnkfdpnkpoaaGreatDoor
open Go Go.Kd
set_option maxRecDepth 100000

theorem PkgOK.sta {K : Cfg} {l : Nat} {s : Gs} {w w' : World} (x : Sta K l w w') (h : PkgOK s w) : PkgOK s w' := fun n hn => by
  obtain ⟨c, y, h1, h2⟩ := h n hn
  exact ⟨c, y, h1, Has.sta x h2⟩
/-- what is known of a world in which type sets are computed; f: the declarations are made -/
structure SC (K : Cfg) (s : Gs) (w : World) (f : Bool) : Prop where
  prp : Prp w
  gN : gP < K.N
  pkg : PkgOK s w
  sl : ∀ d, s.sl d → d < w.heap.size
  er : ∃ b, s.er = .iface tNP (pt b)
  sh : ShapedD K.D
  wd : wtD K.D ≤ 16777216
  dc : f = true → DclI K s w K.D.length ∧ ErrI K s w
  kn : ∀ c u, s.g c = some u → isIf u → K.N ≤ c ∧ WfI K.D u ∧ RT K s w s.sl (.iface tPI (pt c)) u
theorem SC.sta {K : Cfg} {l : Nat} {s : Gs} {w w' : World} {f : Bool} (x : Sta K l w w') (hl : l ≤ 3) (h : SC K s w f) : SC K s w' f :=
  ⟨h.prp.sta x h.gN, h.gN, h.pkg.sta x, fun d hd => Nat.lt_of_lt_of_le (h.sl d hd) x.size, h.er, h.sh, h.wd, fun hf => ⟨(h.dc hf).1.sta x hl, (h.dc hf).2.sta x hl⟩, fun c u hc hu => ⟨(h.kn c u hc hu).1, (h.kn c u hc hu).2.1, (h.kn c u hc hu).2.2.sta x hl⟩⟩
theorem norm_if {y : Ty} (h : (norm y).kind = 9) : isIf y := by
  rcases norm_cases y with ⟨h1, h2⟩ | ⟨_, h2, _⟩ | ⟨h1, h2, _⟩
  · rw [h2] at h; exact .inl h
  · omega
  · exact .inr ⟨h1, h2⟩
theorem isIf.norm9 {y : Ty} (h : isIf y) : (norm y).kind = 9 := by
  rcases h with h | ⟨h, h2⟩
  · rw [norm_named (by omega)]; exact h
  · unfold norm; rw [if_pos h, if_neg (by omega), if_neg (by omega), if_pos h2]; rfl
theorem isIf.lit {y : Ty} (h : isIf y) : isLit y := by
  rcases h with h | ⟨h, h2⟩
  · exact ⟨by omega, fun ⟨h3, _⟩ => by omega⟩
  · exact ⟨by omega, fun ⟨_, h4⟩ => by omega⟩
theorem isIf.dyn {y : Ty} (h : isIf y) : dynT y = tPI := by
  unfold dynT
  rcases h with h | ⟨h, h2⟩
  · simp [h]
  · rw [if_pos h, if_pos h2]
theorem isIf.under {D : List De} {y : Ty} (h : isIf y) : underT D y = norm y := under_lit h.lit.1 h.lit.2
theorem IM.congr {D : List De} {t u : Ty} (h : underT D t = underT D u) {ms : List Mt} (hm : IM D t ms) : IM D u ms := by
  cases hm with
  | no _ hk => exact .no u (by rw [← h]; exact hk)
  | yes _ L h9 hL h1 h2 =>
    rw [h] at h9 hL h1 h2 ⊢
    exact .yes u L h9 hL h1 h2
theorem rk_unique {D : List De} {t : Ty} {j k : Nat} (h : rk D t j) (h' : rk D t k) : j = k := by
  rcases Nat.lt_trichotomy j k with h1 | h1 | h1
  · exact absurd h.1 (h'.2 j h1)
  · exact h1
  · exact absurd h'.1 (h.2 k h1)
theorem rk_congr {D : List De} {t u : Ty} (he : underT D t = underT D u) {k : Nat} (h : rk D t k) : rk D u k := ⟨imR_congr he h.1, fun j hj hi => h.2 j hj (imR_congr he.symm hi)⟩
theorem addM_len (out : List Mt) (m : Mt) : out.length ≤ (addM out m).length := by
  rcases addM_spec out m with ⟨h, _⟩ | ⟨h, _⟩ <;> rw [h]
  · exact Nat.le_refl _
  · simp
theorem foldl_len : ∀ (l out : List Mt), out.length ≤ (l.foldl addM out).length
  | [], _ => Nat.le_refl _
  | m :: l, out => Nat.le_trans (addM_len out m) (foldl_len l (addM out m))
theorem mergeE_len : ∀ (L : List (List Mt)) (out : List Mt), out.length ≤ (mergeE L out).length
  | [], _ => Nat.le_refl _
  | l :: L, out => Nat.le_trans (foldl_len l out) (mergeE_len L _)
theorem mergeE_app (L L' : List (List Mt)) (out : List Mt) : mergeE (L ++ L') out = mergeE L' (mergeE L out) := by
  unfold mergeE
  rw [List.foldl_append]
theorem mergeE_take (L : List (List Mt)) (j : Nat) (out : List Mt) : (mergeE (L.take j) out).length ≤ (mergeE L out).length := by
  have h := mergeE_app (L.take j) (L.drop j) out
  rw [List.take_append_drop] at h
  rw [h]
  exact mergeE_len _ _
theorem foldl_take (l out : List Mt) (k : Nat) : ((l.take k).foldl addM out).length ≤ (l.foldl addM out).length := by
  have h := List.foldl_append (f := addM) (b := out) (l := l.take k) (l' := l.drop k)
  rw [List.take_append_drop] at h
  rw [h]
  exact foldl_len _ _

/-! ### The interface's own methods, and those embedded -/
section
variable {K : Cfg} {s : Gs} {w : World} {b : Nat} {t : Ty} {ma : Option Addr} {c mc' : Nat} {ea : Option Addr} {en ec : Nat} {fb : Nat → Nat} {me : Nat → Ty} {sv ev : Nat → Value}
def exM (t : Ty) (c : Nat) (me : Nat → Ty) : List Mt := (List.range c).map fun i => ⟨(me i).name, (norm t).n, me i⟩
theorem IfD.lit (h : IfD K s w s.sl b t ma c mc' ea en ec fb me sv ev) (hi : isIf t) (hc : 0 < c + en) : t.kind = 9 ∧ norm t = t := by
  rcases hi with h1 | ⟨h1, h2⟩
  · exact ⟨h1, norm_named (by omega)⟩
  · have hn : norm t = anyT := by unfold norm; rw [if_pos h1, if_neg (by omega), if_neg (by omega), if_pos h2]
    have := h.len
    rw [hn] at this
    simp [anyT, Ty.elems] at this
    omega
theorem IfD.el (h : IfD K s w s.sl b t ma c mc' ea en ec fb me sv ev) {i : Nat} (hi : i < c) : ∃ j, j < c ∧ (norm t).elems[j]? = some (me i) := by
  have h1 : me i ∈ (norm t).elems.take c := h.pm.mem_iff.1 (List.mem_map_of_mem (List.mem_range.2 hi))
  obtain ⟨j, hj⟩ := List.getElem?_of_mem h1
  have hlt : j < c := by have := (List.getElem?_eq_some_iff.1 hj).1; rw [List.length_take] at this; omega
  exact ⟨j, hlt, by rw [← List.getElem?_take_of_lt hlt]; exact hj⟩
theorem IfD.mth (h : IfD K s w s.sl b t ma c mc' ea en ec fb me sv ev) (hi : isIf t) (hw : WfI K.D t) {i : Nat} (hic : i < c) : MthO K s w s.sl ⟨(me i).name, (norm t).n, me i⟩ (fb i) := by
  obtain ⟨h9, hn⟩ := h.lit hi (by omega)
  obtain ⟨j, hj, he⟩ := h.el hic
  obtain ⟨pk, k1, k2, k3⟩ := h.fn i hic
  obtain ⟨⟨d, v, _, hsh⟩, hwt, hlg⟩ := hw
  have hcnt := h.cnt
  have hs := hsh.shape
  have h0 := hs.n0 (by rw [h9]; simp [limitN])
  have h1 := hs.n1 (by rw [h9]; simp [limitN])
  rw [h9] at h1
  have h1' : t.n < 2 := by simpa [limitN] using h1
  rw [hn] at he hcnt k1 ⊢
  have hu := hlg.here.unq h9
  rw [hcnt, Int.toNat_natCast] at hu
  have hid := (uniq_names hu).1 j (me i) (by rw [List.getElem?_take_of_lt hj]; exact he)
  have hwe := wt_el he
  have hwn := wt_name (me i)
  refine ⟨pk, sv i, k1, k2, k3, h.sg i hic, hs.mth h9 j _ he (by rw [hcnt]; omega), hid, by show t.n = 0 ∨ t.n = 1; omega, ?_⟩
  show (me i).name.size ≤ Big
  omega
theorem IfD.perm (h : IfD K s w s.sl b t ma c mc' ea en ec fb me sv ev) : (exM t c me).Perm (ownM (norm t) c) := by
  have := h.pm.map fun e : Ty => (⟨e.name, (norm t).n, e⟩ : Mt)
  rw [List.map_map] at this
  exact this
theorem IfD.nodup (h : IfD K s w s.sl b t ma c mc' ea en ec fb me sv ev) (hi : isIf t) (hw : WfI K.D t) : ((ownM (norm t) c).map keyM).Nodup := by
  by_cases hc : c = 0
  · subst hc
    unfold ownM
    simp
  obtain ⟨h9, hn⟩ := h.lit hi (by omega)
  obtain ⟨_, _, hlg⟩ := hw
  have hcnt := h.cnt
  rw [hn] at hcnt ⊢
  have hu := hlg.here.unq h9
  rw [hcnt, Int.toNat_natCast] at hu
  exact own_nodup hu fun i e he hic => hlg.here.mth h9 i e he (by rw [hcnt]; omega)
/-- the embedded types' methods -/
theorem IfD.emb (h : IfD K s w s.sl b t ma c mc' ea en ec fb me sv ev) (hi : isIf t) (hw : WfI K.D t) : ∃ Ls : List (List Mt), Ls.length = en ∧ (∀ (j : Nat) e l, (norm t).elems[c + j]? = some e → Ls[j]? = some l → IM K.D e l) ∧ (∀ (j : Nat) e, (norm t).elems[c + j]? = some e → (underT K.D e).kind = 9) ∧ IM K.D t (mergeE Ls (ownM (norm t) c)) := by
  have hu := hi.under (D := K.D)
  have hlen := h.len
  have hcnt := h.cnt
  by_cases he : en = 0
  · refine ⟨[], he.symm, fun j e l _ hl => by simp at hl, fun j e hj => ?_, IM.of hu h.k9 hcnt (by omega) [] (by simp; omega) fun j e l _ hl => by simp at hl⟩
    have := (List.getElem?_eq_some_iff.1 hj).1
    omega
  obtain ⟨h9, hn⟩ := h.lit hi (by omega)
  obtain ⟨_, _, hlg⟩ := hw
  obtain ⟨all, hco⟩ := hlg.here.con h9
  rw [hn] at hu hlen hcnt ⊢
  have him := hco.im
  cases him with
  | no _ hk => rw [hu] at hk; exact absurd h9 hk
  | yes _ L k9 kL k1 k2 =>
    rw [hu] at k9 kL k1 k2
    have key : ∀ (j : Nat) e l, t.elems[c + j]? = some e → (L.drop c)[j]? = some l → IM K.D e l := fun j e l he hl => by
      rw [List.getElem?_drop] at hl
      exact k2 (c + j) e l he hl (by rw [hcnt]; omega)
    exact ⟨L.drop c, by rw [List.length_drop]; omega, key, fun j e he => hco.ifc (c + j) e he (by rw [hcnt]; omega), IM.of hu h9 hcnt (by omega) (L.drop c) (by rw [List.length_drop]; omega) key⟩
theorem IfD.rdy (h : IfD K s w s.sl b t ma c mc' ea en ec fb me sv ev) (hi : isIf t) (hw : WfI K.D t) {j : Nat} {e : Ty} (he : (norm t).elems[c + j]? = some e) : Rdy K K.D.length e := fun hk => by
  have hlt := (List.getElem?_eq_some_iff.1 he).1
  have hlen := h.len
  obtain ⟨h9, hn⟩ := h.lit hi (by omega)
  rw [hn] at he
  obtain ⟨⟨d, v, hd, hsh⟩, _⟩ := hw
  have hs := (hsh.el _ e he).shape
  have h0 := hs.n0 (by rw [hk]; simp [limitN])
  have h1 := hs.n1 (by rw [hk]; simp [limitN])
  rw [hk] at h1
  have h2 : e.n < K.D.length := by simpa [limitN] using h1
  exact ⟨h0, by omega, by omega⟩
end

/-- the state while an interface's type set is computed -/
structure LS (K : Cfg) (s : Gs) (w : World) (p : Nat → Prop) (b tb ps pa pp rr : Nat) (ic : Array Value) (t0 : Value) (out : List Mt) (v : Value) (wk : World) : Prop where
  cpl : Cpl K w wk
  hb : Has wk b (.cells ic tIF)
  ht : Has wk tb (.cells #[.bool false, .slice none 0 0, t0, .bool false] tTS)
  ex : ∃ l fbs, AM wk ps ps pa pp rr l v fbs ∧ Col K s wk out fbs l
  ifs : ∀ c u, s.g c = some u → isIf u → c ≠ b → IfS K s w p c u → IfS K s wk (PX p tb ps pa v) c u
  sz : pp < wk.heap.size
theorem LS.step {K : Cfg} {s : Gs} {w wk w' : World} {p : Nat → Prop} {b tb ps pa pp rr : Nat} {ic : Array Value} {t0 : Value} {out out' : List Mt} {v v' : Value} {l' : List (List UInt8 × Value)} {fbs' : List Nat} (h : LS K s w p b tb ps pa pp rr ic t0 out v wk)
    (bl : RowKit.Below ps wk w') (hA : AM w' ps ps pa pp rr l' v' fbs') (hC : Col K s w' out' fbs' l') (hK : AKept wk w' ps pa v) (hg : ∀ g, v'.ownBlock = some g → v.ownBlock = some g ∨ wk.heap.size ≤ g)
    (h1 : w.heap.size ≤ ps) (h2 : b < ps) (h3 : tb < ps) (hsl : ∀ d, s.sl d → d < ps) : LS K s w p b tb ps pa pp rr ic t0 out' v' w' := by
  obtain ⟨l, fbs, hA0, _⟩ := h.ex
  obtain ⟨m, hps⟩ := hA0.os.hasps
  refine ⟨h.cpl.bel (bl.mono h1), Has.bel bl h2 h.hb, Has.bel bl h3 h.ht, ⟨l', fbs', hA, hC⟩, fun c u hc hu hne hs => ?_, Nat.lt_of_lt_of_le h.sz bl.size⟩
  rcases h.ifs c u hc hu hne hs with k | k
  · exact .inl (k.tr (PX.tr hK hg) (.sameM (fun d hd => bl.block d (hsl d hd)) fun _ h => h))
  · exact .inr (hK.ifn hps hA0.al hA0.ow k)
theorem Cpl.done {K : Cfg} {w w' : World} (x : Cpl K w w') {b tb : Nat} {ma : Option Addr} {mn mc' : Nat} {ea : Option Addr} {en ec : Nat} (h : Has w b (.cells (ifc ma mn mc' ea en ec (pt tb)) tIF)) : Has w' b (.cells (ifc ma mn mc' ea en ec (pt tb)) tIF) := by
  obtain ⟨cs', h1, h2⟩ := x.ifs _ _ h.at_
  obtain ⟨ts', rfl⟩ := h2.ifb
  have h6 := h2.cell 6 (by
    unfold mc
    simp only [show ¬ tIF = tTY from by decide, if_false, if_true]
    rfl)
  have : ts' = pt tb := Option.some.inj h6
  subst this
  exact ⟨h1⟩
theorem Cpl.cells {K : Cfg} {w w' : World} (x : Cpl K w w') {b : Nat} {cs : Array Value} {t : TypeId} (ht : t ≠ tIF) (h : Has w b (.cells cs t)) : Has w' b (.cells cs t) := ⟨x.blk _ _ h.at_ fun cs' e => by
  cases e
  exact ht rfl⟩
/-- .. after another one's has been computed -/
theorem LS.call {K : Cfg} {s : Gs} {w wk w' : World} {p : Nat → Prop} {b tb ps pa pp rr : Nat} {ma : Option Addr} {mn mc' : Nat} {ea : Option Addr} {en ec : Nat} {t0 : Value} {out : List Mt} {v : Value} (h : LS K s w p b tb ps pa pp rr (ifc ma mn mc' ea en ec (pt tb)) t0 out v wk)
    (x : Cpl K wk w') (hp : ∀ c u, s.g c = some u → isIf u → IfS K s wk (PX p tb ps pa v) c u → IfS K s w' (PX p tb ps pa v) c u) : LS K s w p b tb ps pa pp rr (ifc ma mn mc' ea en ec (pt tb)) t0 out v w' := by
  obtain ⟨l, fbs, hA, hC⟩ := h.ex
  exact ⟨h.cpl.trans x, x.done h.hb, x.cells (by decide) h.ht, ⟨l, fbs, hA.kept fun d o h ho => x.blk d o h fun cs e => (ho cs _ e).1 rfl, hC.tr (.sta x.sta (by omega) _)⟩, fun c u hc hu hne hs => hp c u hc hu (h.ifs c u hc hu hne hs), Nat.lt_of_lt_of_le h.sz x.size⟩
theorem IfS.ext {K : Cfg} {s : Gs} {w w' : World} {p : Nat → Prop} (x : Ext w w') {c : Nat} {u : Ty} (h : IfS K s w p c u) : IfS K s w' p c u :=
  h.imp (fun h => h.tr (.sta (l := 0) (.of_ext x) (by omega) _) (.sta (l := 0) (.of_ext x) (by omega) _)) fun h => h.ext x
theorem LS.ext {K : Cfg} {s : Gs} {w wk w' : World} {p : Nat → Prop} {b tb ps pa pp rr : Nat} {ma : Option Addr} {mn mc' : Nat} {ea : Option Addr} {en ec : Nat} {t0 : Value} {out : List Mt} {v : Value} (h : LS K s w p b tb ps pa pp rr (ifc ma mn mc' ea en ec (pt tb)) t0 out v wk)
    (x : Ext wk w') : LS K s w p b tb ps pa pp rr (ifc ma mn mc' ea en ec (pt tb)) t0 out v w' := h.call (.of_ext x) fun _ _ _ _ h => h.ext x
/-- a type set's block -/
structure TB (K : Cfg) (s : Gs) (w : World) (q : Nat → Prop) (tb : Nat) (a : Option Addr) (n c : Nat) (v : Value) (ms : List Mt) (fb : Nat → Nat) : Prop where
  ptb : q tb
  ht : Has w tb (.cells #[.bool false, .slice a n c, v, .bool false] tTS)
  all : AllQ w q v
  row : RowQ w q tFN a n fb
  len : ms.length = n
  mth : ∀ (i : Nat) m, ms[i]? = some m → MthO K s w s.sl m (fb i)
theorem TB.tr {K : Cfg} {s : Gs} {w w' : World} {q q' : Nat → Prop} (x : Tr K w w' q q') (y : Tr K w w' s.sl s.sl) {tb : Nat} {a : Option Addr} {n c : Nat} {v : Value} {ms : List Mt} {fb : Nat → Nat} (h : TB K s w q tb a n c v ms fb) : TB K s w' q' tb a n c v ms fb := by
  obtain ⟨k3, k4⟩ := x.imm h.ptb h.ht
  exact ⟨k3, k4, h.all.tr x, h.row.tr x, h.len, fun i m hm => (h.mth i m hm).tr y⟩
theorem TSo.tb {K : Cfg} {s : Gs} {w : World} {q : Nat → Prop} {b tb : Nat} {t : Ty} {ms : List Mt} {fb : Nat → Nat} (h : TSo K s w q b tb t ms fb) : ∃ a c v, TB K s w q tb a ms.length c v ms fb := by
  obtain ⟨a, c, v, h1, h2, h3⟩ := h.tsb
  exact ⟨a, c, v, h.ptb, h1, h2, h3, rfl, h.mth⟩
/-- the type set is there -/
theorem LS.done {K : Cfg} {s : Gs} {w wk wz : World} {p : Nat → Prop} {b tb ps pa pp rr : Nat} {ma : Option Addr} {mn mc' : Nat} {ea : Option Addr} {en ec : Nat} {t0 : Value} {out : List Mt} {v va : Value} {t : Ty} {ms msF : List Mt} {a : Option Addr} {c : Nat} {fb : Nat → Nat}
    (h : LS K s w p b tb ps pa pp rr (ifc ma mn mc' ea en ec (pt tb)) t0 out v wk) (hgb : s.g b = some t) (hpb : p b) (hptb : p tb) (hp : ∀ d, w.heap.size ≤ d → p d) (h1 : w.heap.size ≤ tb) (h2 : tb < ps) (hbw : b < w.heap.size) (hsl : ∀ d, s.sl d → d < w.heap.size)
    (hos : wz.os = wk.os ∧ wz.tape = wk.tape ∧ wz.output = wk.output ∧ wk.heap.size ≤ wz.heap.size) (hk : ∀ (d : Nat) (o : Obj), wk.heap[d]? = some o → d ≠ tb → v.ownBlock ≠ some d → wz.heap[d]? = some o)
    (htz : Has wz tb (.cells #[.bool false, .slice a ms.length c, va, .bool false] tTS)) (hrow : ∀ i, i < ms.length → ∃ g cs, a = some ⟨g, 0, none⟩ ∧ ps ≤ g ∧ Has wz g (.cells cs tFN) ∧ cs[i]? = some (pt (fb i))) (hpm : ms.Perm out) (hs : Srtd ms)
    (hmth : ∀ (i : Nat) m, ms[i]? = some m → MthO K s wk s.sl m (fb i)) (hva : AllQ wk (PX p tb ps pa v) va) (hout : out.Perm msF) (him : IM K.D t msF) :
    Cpl K w wz ∧ ∃ tb' ms' fb', pt tb = pt tb' ∧ TSo K s wz p b tb' t ms' fb' ∧ ∀ c u, s.g c = some u → isIf u → IfS K s w p c u → IfS K s wz p c u := by
  obtain ⟨l, fbs, hA, hC⟩ := h.ex
  have hown : ∀ d, d < ps → v.ownBlock ≠ some d := fun d hd e => by have := (hA.ow.lt d e).1; omega
  have hwk := h.cpl.size
  have bel : RowKit.Below w.heap.size wk wz := ⟨hos.1, hos.2.1, hos.2.2.1, hos.2.2.2, fun d hd => by
    have ho := Array.getElem?_eq_getElem (show d < wk.heap.size by omega)
    rw [ho]
    exact hk d _ ho (by omega) (hown d (by omega))⟩
  have x : Tr K wk wz (PX p tb ps pa v) p := ⟨fun d cs t' ⟨q1, q2, q3, q4, q5⟩ _ hd => ⟨q1, cs, ⟨hk d _ hd.at_ q2 q5⟩, .rfl' ..⟩⟩
  have y : Tr K wk wz s.sl s.sl := .sameM (fun d hd => bel.block d (hsl d hd)) fun _ h => h
  have hbz := Has.bel bel hbw h.hb
  have hts : TSo K s wz p b tb t ms fb := ⟨hpb, hptb, ⟨_, _, _, _, _, _, hbz⟩, ⟨msF, him, hpm.trans hout⟩, hs, ⟨a, c, va, htz, hva.tr x, fun i hi => by
    obtain ⟨g, cs, k1, k2, k3, k4⟩ := hrow i hi
    exact ⟨g, cs, k1, hp g (by omega), k3, k4⟩⟩, fun i m hm => (hmth i m hm).tr y⟩
  refine ⟨h.cpl.bel bel, tb, ms, fb, rfl, hts, fun c' u hc hu hs' => ?_⟩
  by_cases hcb : c' = b
  · subst hcb
    rw [hgb] at hc
    cases hc
    exact .inl ⟨tb, ms, fb, hts⟩
  · rcases h.ifs c' u hc hu hcb hs' with k | k
    · exact .inl (k.tr x y)
    · exact .inr (k.same fun cs hcs => (hk c' _ hcs.at_ (Has.tne hcs h.ht (by decide)) fun e => Own.ne hA.ow hcs (by decide) c' e rfl).trans hcs.at_.symm)
theorem c_allTermlist' (w : World) : Calls Tryz.prog 130 #[] w (Ret fun r w' => AllQ w' (fun d => w.heap.size ≤ d) r ∧ Ext w w') := by
  refine W.enter (args := []) Tryz.func130 rfl Tryz.ntmps130 rfl rfl ?_
  refine zst ?_
  refine WU.stp rfl rfl rfl stp_alloc ?_
  rintro _ w1 ⟨b1, rfl, n1⟩
  refine zst ?_
  refine WU.stp rfl rfl rfl (stp_buildSlice rfl rfl rfl rfl rfl) ?_
  rintro _ w2 ⟨b2, rfl, n2⟩
  refine zst ?_
  have h1 := n1.num
  have h2 := n2.num
  have h3 := n1.ext.size
  refine fin1 (.inl rfl) rfl rfl ⟨⟨_, _, b1, rfl, fun i hi => ⟨b2, _, rfl, by omega, n2.has, ?_⟩, by omega, n1.has.ext' n2.ext⟩, n1.ext.trans n2.ext⟩
  obtain rfl : i = 0 := by omega
  rfl
/-- the contract: the type set of block b is there afterwards -/
def CitsC (K : Cfg) (s : Gs) (f : Bool) (k b : Nat) (t : Ty) : Prop := ∀ (w : World) (p : Nat → Prop) (pos : Int), SC K s w f → (∀ d, w.heap.size ≤ d → p d) → (∀ d, s.sl d → p d) → (∀ c u j, s.g c = some u → isIf u → rk K.D u j → j ≤ k → IfS K s w p c u) →
  Calls Tryz.prog 88 #[.pointer none, .int .i64 pos, pt b] w (Ret fun r w' => Cpl K w w' ∧ ∃ tb ms fb, r = pt tb ∧ TSo K s w' p b tb t ms fb ∧ ∀ c u, s.g c = some u → isIf u → IfS K s w p c u → IfS K s w' p c u)
theorem c_cits_done (w : World) (pos : Int) (b tb : Nat) (h : IfT w b (pt tb)) : Calls Tryz.prog 88 #[.pointer none, .int .i64 pos, pt b] w (Ret fun r w' => r = pt tb ∧ w = w') := by
  obtain ⟨ma, mn, mc', ea, en, ec, h⟩ := h
  refine W.enter (args := [.pointer none, .int .i64 pos, pt b]) Tryz.func88 rfl Tryz.ntmps88 rfl rfl ?_
  refine zst ?_
  exact fin1 (.inl rfl) rfl rfl ⟨rfl, rfl⟩
end Go.Proofs.YtelmnkfdpnkpoaaGreatDoor
namespace Go.Proofs.YtelmnkfdpnkpoaaGreatDoor
open Go Go.Kd
set_option maxRecDepth 100000

theorem map_getD (fbs : List Nat) : (fbs.map fun b => [pt b]) = (List.range fbs.length).map fun i => [pt (fbs.getD i 0)] := by
  apply List.ext_getElem?
  intro i
  rw [List.getElem?_map, List.getElem?_map]
  by_cases hi : i < fbs.length
  · rw [List.getElem?_range hi, List.getElem?_eq_getElem hi]
    simp [List.getD, hi]
  · rw [List.getElem?_eq_none (by omega), List.getElem?_eq_none (by simp; omega)]
    rfl
def mt0 : Mt := ⟨eB, 0, anyT⟩
/-- the methods that were collected, sorted -/
theorem c_sortC {K : Cfg} {s : Gs} (base ps pa pp rr : Nat) (l : List (List UInt8 × Value)) (v : Value) (fbs : List Nat) (out : List Mt) (w : World) (h : AM w base ps pa pp rr l v fbs) (hc : Col K s w out fbs l) (hp : Prp w) (hpg : PkgOK s w) (hg : gP < base) (hlen : out.length ≤ 1073741824) :
    Calls Tryz.prog 134 #[v] w (Ret fun _ w' => RowKit.Below base w w' ∧ (∀ d o, w.heap[d]? = some o → v.ownBlock ≠ some d → w'.heap[d]? = some o) ∧ ∃ (a : Option Addr) (c : Nat) (ms : List Mt) (fb : Nat → Nat), v = .slice a out.length c ∧ ms.Perm out ∧ Srtd ms ∧
      (∀ i, i < out.length → ∃ g cs, a = some ⟨g, 0, none⟩ ∧ base ≤ g ∧ Has w' g (.cells cs tFN) ∧ cs[i]? = some (pt (fb i))) ∧ ∀ (i : Nat) m, ms[i]? = some m → MthO K s w s.sl m (fb i)) := by
  have how := h.ow
  rw [map_getD] at how
  obtain ⟨a, c, rfl, hr⟩ := Own.row1 how
  rw [hc.len] at *
  have hel : ∀ i, i < out.length → out[i]? = some (out.getD i mt0) := fun i hi => by rw [List.getD_eq_getElem?_getD, List.getElem?_eq_getElem hi]; rfl
  have hfl : ∀ i, i < out.length → fbs[i]? = some (fbs.getD i 0) := fun i hi => by rw [List.getD_eq_getElem?_getD, List.getElem?_eq_getElem (by rw [hc.len]; exact hi)]; rfl
  have hm : ∀ i, i < out.length → MthO K s w s.sl (out.getD i mt0) (fbs.getD i 0) := fun i hi => hc.ms i _ _ (hel i hi) (hfl i hi)
  obtain ⟨f, hf⟩ := Classical.axiomOfChoice (r := fun (i : Nat) (y : Value × Value) => i < out.length → FuncV w (fbs.getD i 0) y.1 (out.getD i mt0).name y.2 ∧ PkV w (out.getD i mt0).name y.1 (pth (out.getD i mt0).pkg)) fun i => by
    by_cases hi : i < out.length
    · obtain ⟨pk, sv, k1, k2⟩ := (hm i hi).pkv hpg
      exact ⟨(pk, sv), fun _ => ⟨k1, k2⟩⟩
    · exact ⟨(.nilIface, .nilIface), fun h => absurd h hi⟩
  have hfr : FRow w out.length (fun i => fbs.getD i 0) (fun i => (f i).1) (fun i => (out.getD i mt0).name) (fun i => pth (out.getD i mt0).pkg) (fun i => (f i).2) := ⟨fun i hi => (hf i hi).1, fun i hi => (hf i hi).2, fun i hi => (hm i hi).id.1.asc, fun i j hi hj he => by
    obtain ⟨i1, i2, _⟩ := (hm i hi).id
    obtain ⟨j1, j2, _⟩ := (hm j hj).id
    have hk := (idS_key i1 j1 i2 j2).1 he
    have hil : i < (out.map keyM).length := by simpa using hi
    have hjl : j < (out.map keyM).length := by simpa using hj
    refine (List.getElem_inj (h₀ := hil) (h₁ := hjl) hc.nd).1 ?_
    have a1 := hel i hi
    have a2 := hel j hj
    rw [List.getElem?_eq_getElem hi] at a1
    rw [List.getElem?_eq_getElem hj] at a2
    rw [List.getElem_map, List.getElem_map, Option.some.inj a1, Option.some.inj a2]
    exact hk⟩
  have hown : ∀ a', a = some a' → (Value.slice a out.length c).ownBlock = some a'.block := fun a' ha => by rw [ha]; rfl
  refine (c_sortMethods a out.length c (fun i => fbs.getD i 0) (fun i => (f i).1) (fun i => (out.getD i mt0).name) (fun i => pth (out.getD i mt0).pkg) (fun i => (f i).2) w hp (fun i hi => by
    obtain ⟨g, cs, q1, _, _, q3, q4⟩ := hr i hi
    exact ⟨g, cs, q1, q3, q4⟩) hfr hlen (fun a' ha e => by
    have := (how.lt _ (hown a' ha)).1
    omega)).mono ?_
  rintro e w' ⟨r, he, hs, σ, hσ, hrow, hsd⟩
  have hσlen : σ.length = out.length := by rw [hσ.length_eq, List.length_range]
  have hσlt : ∀ i, i < out.length → σ.getD i 0 < out.length := fun i hi => by
    rw [List.getD_eq_getElem?_getD, List.getElem?_eq_getElem (by omega)]
    exact List.mem_range.1 (hσ.mem_iff.1 (List.getElem_mem (by omega)))
  have hmsl : ∀ i m, (σ.map fun j => out.getD j mt0)[i]? = some m → i < out.length ∧ m = out.getD (σ.getD i 0) mt0 := fun i m hi => by
    have hlt : i < σ.length := by have := (List.getElem?_eq_some_iff.1 hi).1; simpa using this
    rw [List.getElem?_map, List.getElem?_eq_getElem hlt] at hi
    refine ⟨by omega, ?_⟩
    rw [List.getD_eq_getElem?_getD (l := σ), List.getElem?_eq_getElem hlt]
    exact (Option.some.inj hi).symm
  refine ⟨r, he, ⟨hs.os, hs.tape, hs.output, hs.size, fun d hd => ?_⟩, fun d o ho hne => (hs.oth d (Array.getElem?_eq_some_iff.1 ho).1 fun a' ha e => hne (by rw [hown a' ha, e])).trans ho, a, c, σ.map fun j => out.getD j mt0, fun i => fbs.getD (σ.getD i 0) 0, rfl, ?_, ?_, fun i hi => ?_, fun i m hi => ?_⟩
  · by_cases hlt : d < w.heap.size
    · exact hs.oth d hlt fun a' ha e => by have := (how.lt _ (hown a' ha)).1; omega
    · have hb : base ≤ w.heap.size := by
        have := h.al.lt
        have := h.ba
        omega
      omega
  · have h1 := hσ.map fun j => out.getD j mt0
    have h2 : (List.range out.length).map (fun j => out.getD j mt0) = out := by
      apply List.ext_getElem?
      intro i
      rw [List.getElem?_map]
      by_cases hi : i < out.length
      · rw [List.getElem?_range hi, hel i hi]; rfl
      · rw [List.getElem?_eq_none (by simpa using hi), List.getElem?_eq_none (by omega)]; rfl
    rw [h2] at h1
    exact h1
  · intro i j m m' hij hi hj
    obtain ⟨_, rfl⟩ := hmsl i m hi
    obtain ⟨hjl, rfl⟩ := hmsl j m' hj
    exact hsd i j hij hjl
  · obtain ⟨g, cs, q1, q2, q3⟩ := hrow i hi
    refine ⟨g, cs, q1, ?_, q2, q3⟩
    have := (how.lt _ (hown _ q1)).1
    exact this
  · obtain ⟨hil, rfl⟩ := hmsl i m hi
    exact hm _ (hσlt i hil)

set_option maxHeartbeats 8000000 in
theorem cits_walk (K : Cfg) (s : Gs) (f : Bool) (k b : Nat) (t : Ty) (hgb : s.g b = some t) (hif : isIf t) (hrk : rk K.D t k) (hfe : f = true ∨ (norm t).count = (norm t).elems.length)
    (ih : ∀ j, j < k → ∀ c u, s.g c = some u → isIf u → rk K.D u j → CitsC K s true j c u) (w : World) (p : Nat → Prop) (pos : Int) (hsc : SC K s w f) (hp : ∀ d, w.heap.size ≤ d → p d) (hps : ∀ d, s.sl d → p d) (hI : ∀ c u j, s.g c = some u → isIf u → rk K.D u j → j ≤ k → IfS K s w p c u) (hn : IfN w b) :
    Calls Tryz.prog 88 #[.pointer none, .int .i64 pos, pt b] w (Ret fun r w' => Cpl K w w' ∧ ∃ tb ms fb, r = pt tb ∧ TSo K s w' p b tb t ms fb ∧ ∀ c u, s.g c = some u → isIf u → IfS K s w p c u → IfS K s w' p c u) := by
  obtain ⟨hNb, hwf, hrt⟩ := hsc.kn b t hgb hif
  obtain ⟨ma, c, mc', ea, en, ec, fb, me, sv, ev, hd⟩ := hrt.ifd hif (fun T v hv e => by
    obtain ⟨b', he⟩ := hsc.er
    rw [he] at hv
    cases hv
    exact absurd e (by decide)) (fun h9 => by
    obtain ⟨⟨d, v, _, hsh⟩, _⟩ := hwf
    exact ⟨hsh.shape.c0 (.inr h9), hsh.shape.c1 (.inr h9)⟩)
  obtain ⟨Ls, hLl, hLi, hL9, hIM⟩ := hd.emb hif hwf
  have hlenF : (mergeE Ls (ownM (norm t) c)).length ≤ 1073741824 := by
    obtain ⟨⟨d, v, hdl, hsh⟩, hwt, _⟩ := hwf
    have := IM_len hsc.sh hIM hdl hsh
    have := hsc.wd
    replace hwt : wt t ≤ 268435456 := hwt
    omega
  have hperm0 : ((exM t c me).foldl addM []).Perm (ownM (norm t) c) := by
    have h1 := addM_perm (out := []) (out' := []) (hd.nodup hif hwf) hd.perm (.refl _)
    rw [addM_fold (hd.nodup hif hwf), List.nil_append, List.filter_eq_self.2 (fun m _ => by simp)] at h1
    exact h1
  have hb0 : Has w b (.cells (ifc ma c mc' ea en ec (.pointer none)) tIF) := by
    obtain ⟨ts, h1⟩ := hd.ib
    obtain ⟨a1, a2, a3, a4, a5, a6, h2⟩ := hn
    have h3 := h1.at_.symm.trans h2.at_
    simp only [Option.some.injEq, Obj.cells.injEq] at h3
    have h4 := congrArg (fun a => a.toList[6]?) h3.1
    simp at h4
    subst h4
    exact h1
  have hltb := hb0.lt
  have hlen := hd.len
  have hen : en ≤ 1073741824 := by
    by_cases h0 : 0 < c + en
    · obtain ⟨h9, hn'⟩ := hd.lit hif h0
      have h1 := wt_len t
      obtain ⟨_, hwt, _⟩ := hwf
      replace hwt : wt t ≤ 268435456 := hwt
      rw [hn'] at hlen
      omega
    · omega
  have hmn : c ≤ 1073741824 := by
    have : (exM t c me).length = c := by simp [exM]
    have h2 := hd.perm.length_eq
    have h3 := mergeE_len Ls (ownM (norm t) c)
    omega
  refine W.enter (args := [.pointer none, .int .i64 pos, pt b]) Tryz.func88 rfl Tryz.ntmps88 rfl rfl ?_
  refine zst ?_
  refine WU.stp rfl rfl rfl (stp_call rfl (c_allTermlist w)) ?_
  rintro v0 w1 ⟨hv0, x1⟩
  obtain ⟨g0, c0, t0, cs0, rfl, _⟩ := hv0.open
  have hb1 := hb0.ext' x1
  refine zst ?_
  refine WU.stp rfl rfl rfl (by first | exact stp_box rfl rfl | exact stp_box1 rfl rfl) ?_
  rintro _ w2 ⟨tb, rfl, n2⟩
  have hb2 : Has w2 b (.cells (ifc ma c mc' ea en ec (.pointer none)) tIF) := hb1.ext' n2.ext
  refine zst ?_
  refine WU.stp0 rfl rfl (stp_store_cell rfl rfl rfl rfl) ?_
  rintro _ w3 u3
  have hb3 : Has w3 b (.cells (ifc ma c mc' ea en ec (pt tb)) tIF) := u3.has
  have e2 := n2.num
  have s1 := x1.size
  have htb : tb ≠ b := by omega
  have ht3 : Has w3 tb (.cells #[.bool false, .slice none 0 0, .slice (some ⟨g0, 0, none⟩) 1 c0, .bool false] tTS) := ⟨(u3.oth tb htb).trans n2.has.at_⟩
  have cp3 : Cpl K w w3 := (Cpl.of_ext (x1.trans n2.ext)).trans (Cpl.put hb2 u3 hNb)
  have s3 := u3.size
  have s2 := n2.size
  refine zst ?_
  refine WU.stp rfl rfl rfl stp_makeMap ?_
  rintro _ w4 ⟨m4, rfl, n4⟩
  refine zst ?_
  refine WU.stp rfl rfl rfl stp_alloc ?_
  rintro _ w5 ⟨ps, rfl, n5⟩
  refine zst ?_
  refine WU.stp rfl rfl rfl stp_alloc ?_
  rintro _ w6 ⟨pa, rfl, n6⟩
  refine zst ?_
  refine WU.stp rfl rfl rfl stp_makeMap ?_
  rintro _ w7 ⟨rr, rfl, n7⟩
  refine zst ?_
  refine WU.stp rfl rfl rfl stp_alloc ?_
  rintro _ w8 ⟨pp, rfl, n8⟩
  have ipp := n8.has
  refine zst ?_
  refine WU.stp0 rfl rfl (stp_store_cell rfl rfl rfl rfl) ?_
  rintro _ w9 u9
  have e5 := n5.num
  have e6 := n6.num
  have e7 := n7.num
  have e8 := n8.num
  have s4 := n4.size
  have s5 := n5.size
  have s6 := n6.size
  have s7 := n7.size
  have s8 := n8.size
  have s9 := u9.size
  have x39 : Ext w3 w9 := ((((n4.ext.trans n5.ext).trans n6.ext).trans n7.ext).trans (u9.ofNew n8).ext)
  have hps9 : Has w9 ps (.cells #[.map none] tOS) := ⟨(u9.oth ps (by omega)).trans ((((n5.has : Has w5 ps (.cells #[.map none] tOS)).ext' n6.ext).ext' n7.ext).ext' n8.ext).at_⟩
  have hpa9 : Has w9 pa (.cells #[.slice none 0 0] tMS) := ⟨(u9.oth pa (by omega)).trans (((n6.has : Has w6 pa (.cells #[.slice none 0 0] tMS)).ext' n7.ext).ext' n8.ext).at_⟩
  have hrr9 : Has w9 rr (.map #[] 0) := ⟨(u9.oth rr (by omega)).trans ((n7.has : Has w7 rr (.map #[] 0)).ext' n8.ext).at_⟩
  have hslp : ∀ d, s.sl d → d < w.heap.size := hsc.sl
  have hifs3 : ∀ c u, s.g c = some u → isIf u → c ≠ b → IfS K s w p c u → IfS K s w3 (PX p tb ps pa (.slice none 0 0)) c u := fun c' u hc hu hne hs => by
    rcases hs with h | h
    · exact .inl (h.tr (.staM cp3.sta (by omega) fun d hd hpd => ⟨hpd, by omega, by omega, by omega, fun e => by cases e⟩) (.sta cp3.sta (by omega) _))
    · exact .inr (((h.ext x1).ext n2.ext).same fun _ _ => u3.oth c' hne)
  have hls9 : LS K s w p b tb ps pa pp rr (ifc ma c mc' ea en ec (pt tb)) (.slice (some ⟨g0, 0, none⟩) 1 c0) [] (.slice none 0 0) w9 :=
    ⟨cp3.trans (.of_ext x39), hb3.ext' x39, ht3.ext' x39, ⟨[], [], ⟨⟨Nat.le_refl _, fun p hp => (by cases hp), .inl ⟨hps9, rfl⟩⟩, hpa9, by simpa using Own.nil w9 ps tFN 1, u9.has, ⟨#[], 0, hrr9, fun m hm => (by simp at hm)⟩, by omega, by omega⟩, .nil ..⟩, fun c u hc hu hne hs => (hifs3 c u hc hu hne hs).ext x39, by omega⟩
  clear hps9 hpa9 hrr9 ipp hifs3
  have hbt : b < ps := by omega
  have htt : tb < ps := by omega
  have hwp : w.heap.size ≤ ps := by omega
  have hslps : ∀ d, s.sl d → d < ps := fun d hd => by have := hslp d hd; omega
  have hgps : gP < ps := by have := hsc.gN; omega
  have hppps : ps < pp := by omega
  have hpapp : pa < pp := by omega
  have htbp : p tb := hp tb (by omega)
  -- what holds of blocks that are newer
  have hpx : ∀ (wk : World) (v : Value) (l : List (List UInt8 × Value)) (fbs : List Nat), pp < wk.heap.size → AM wk ps ps pa pp rr l v fbs → ∀ d, wk.heap.size ≤ d → PX p tb ps pa v d := fun wk v l fbs hs hA d hdd => ⟨hp d (by omega), by omega, by omega, by omega, fun e => by
    have := (hA.ow.lt d e).2
    omega⟩
  have hpxs : ∀ (wk : World) (v : Value) (l : List (List UInt8 × Value)) (fbs : List Nat), AM wk ps ps pa pp rr l v fbs → ∀ d, s.sl d → PX p tb ps pa v d := fun wk v l fbs hA d hdd => by
    have := hslp d hdd
    exact ⟨hps d hdd, by omega, by omega, by omega, fun e => by
      have := (hA.ow.lt d e).1
      omega⟩
  clear hb0 hb1 hb2 hb3 ht3 cp3 x39 u9 u3 n2 n4 n5 n6 n7 n8 x1 hn
  refine zst ?_
  refine WU.yld rfl rfl rfl (yld_makeFunc rfl) ?_
  have hbk := hls9.hb
  refine zst ?_
  -- the methods that the interface declares
  refine W.loop (σ := Nat × Value) (fun (j, _) => [(57, .int .i64 j), (56, .int .i64 c), (55, .slice ma c mc'), (11, .func (.func 131) #[] #[pt ps, pt pa, pt pp]), (9, pt pa), (2, pt b), (0, .pointer none)])
    (fun (j, v) D' wk => D' = [] ∧ j ≤ c ∧ LS K s w p b tb ps pa pp rr (ifc ma c mc' ea en ec (pt tb)) (.slice (some ⟨g0, 0, none⟩) 1 c0) (((exM t c me).take j).foldl addM []) v wk)
    (fun (j, _) => c - j) (0, .slice none 0 0) ⟨rfl, Nat.zero_le _, hls9⟩ (by exact sub_of ⟨rfl, rfl, rfl, rfl, rfl, rfl, rfl, trivial⟩) ?_
  clear hls9 hbk
  rintro ⟨j, v⟩ D' wk ⟨rfl, hj, hls⟩
  obtain ⟨l, fbs, hA, hC⟩ := hls.ex
  have hsck : SC K s wk f := hsc.sta hls.cpl.sta (by omega)
  have hszk := hls.sz
  refine zst ?_
  by_cases hlt : j < c
  · rw [show decide ((j : Int) < (c : Int)) = true by simpa using hlt]
    have hrow := hd.fr.row.sta hls.cpl.sta
    obtain ⟨rb, rfl, hrc⟩ := hrow.cell hlt
    have hm0 := hd.mth hif hwf hlt
    have hm : MthO K s wk s.sl ⟨(me j).name, (norm t).n, me j⟩ (fb j) := hm0.tr (.sta hls.cpl.sta (by omega) _)
    obtain ⟨pkj, svj, _, _, hfk, _⟩ := hm
    have hfk' : Has wk (fb j) (.cells #[.int .i64 0, pkj, .string (me j).name, svj, .bool false, .bool false] tFU) := hfk
    have hm : MthO K s wk s.sl ⟨(me j).name, (norm t).n, me j⟩ (fb j) := hm0.tr (.sta hls.cpl.sta (by omega) _)
    have hex : (exM t c me)[j]? = some ⟨(me j).name, (norm t).n, me j⟩ := by
      unfold exM
      rw [List.getElem?_map, List.getElem?_range hlt]
      rfl
    have htk : (exM t c me).take (j + 1) = (exM t c me).take j ++ [⟨(me j).name, (norm t).n, me j⟩] := by rw [List.take_add_one, hex]; rfl
    have hol : (((exM t c me).take j).foldl addM []).length ≤ 1073741824 := by
      have h1 := foldl_take (exM t c me) [] j
      have h2 := hperm0.length_eq
      have h3 := mergeE_len Ls (ownM (norm t) c)
      omega
    refine zst ?_
    refine WU.yld rfl rfl rfl (yld_load_c rfl hrc) ?_
    refine zst ?_
    refine WU.stp rfl rfl rfl (stp_callc (caps := [pt ps, pt pa, pt pp]) rfl rfl (c_addC K s ps ps pa pp rr (fb j) l v fbs _ ⟨(me j).name, (norm t).n, me j⟩ 0 true wk hA (by omega) hsck.prp hsck.pkg hC hm hslps hol)) ?_
    rintro _ w' ⟨bl, l', v', fbs', hA', hC', hK', hg'⟩
    refine zst ?_
    refine ⟨(j + 1, v'), by show c - (j + 1) < c - j; omega, ⟨rfl, by omega, ?_⟩, sub_of ⟨rfl, rfl, rfl, rfl, rfl, rfl, rfl, trivial⟩⟩
    rw [htk, foldl_snoc]
    exact hls.step bl hA' hC' hK' hg' hwp hbt htt hslps
  rw [show decide ((j : Int) < (c : Int)) = false by simpa using hlt]
  obtain rfl : j = c := by omega
  have hall : (exM t j me).take j = exM t j me := List.take_of_length_le (by simp [exM])
  rw [hall] at hls hC
  refine zst ?_
  refine WU.stp rfl rfl rfl (stp_call rfl (c_allTermlist' wk)) ?_
  rintro at0 w1 ⟨hat, x1⟩
  have hlsa := hls.ext x1
  have hbk := hlsa.hb
  have hat1 : AllQ w1 (PX p tb ps pa v) at0 := by
    obtain ⟨a, cc, tb', q1, q2, q3, q4⟩ := hat
    exact ⟨a, cc, tb', q1, fun i hi => by
      obtain ⟨b', cs, r1, r2, r3⟩ := q2 i hi
      exact ⟨b', cs, r1, hpx wk v l fbs hszk hA _ r2, r3⟩, hpx wk v l fbs hszk hA _ q3, q4⟩
  refine zst ?_
  -- the embedded ones
  refine W.loop (σ := Nat × Value × Value) (fun (i, _, va) => [(76, .int .i64 i), (75, .int .i64 en), (74, .slice ea en ec), (14, va), (15, .bool false), (11, .func (.func 131) #[] #[pt ps, pt pa, pt pp]), (9, pt pa), (2, pt b), (0, .pointer none)])
    (fun (i, v, va) D' wk => D' = [] ∧ i ≤ en ∧ AllQ wk (PX p tb ps pa v) va ∧ ∃ out, LS K s w p b tb ps pa pp rr (ifc ma j mc' ea en ec (pt tb)) (.slice (some ⟨g0, 0, none⟩) 1 c0) out v wk ∧ out.Perm (mergeE (Ls.take i) (ownM (norm t) j)))
    (fun (i, _, _) => en - i) (0, v, at0) ⟨rfl, Nat.zero_le _, hat1, _, hlsa, hperm0⟩ (by exact sub_of ⟨rfl, rfl, rfl, rfl, rfl, rfl, rfl, rfl, rfl, trivial⟩) ?_
  clear hls hC hA hsck hlsa hbk hat1 hat x1 hszk l fbs
  clear v wk w1
  rintro ⟨i, v, va⟩ D' wk ⟨rfl, hi, hva, out, hls, hpm⟩
  obtain ⟨l, fbs, hA, hC⟩ := hls.ex
  have hsck : SC K s wk f := hsc.sta hls.cpl.sta (by omega)
  have hszk := hls.sz
  have hbk := hls.hb
  refine zst ?_
  by_cases hlti : i < en
  · rw [show decide ((i : Int) < (en : Int)) = true by simpa using hlti]
    have hft : f = true := hfe.resolve_right fun h => by have := hd.cnt; omega
    subst hft
    have he := List.getElem?_eq_getElem (show j + i < (norm t).elems.length by omega)
    generalize (norm t).elems[j + i] = e at he
    obtain ⟨dck, erk⟩ := hsck.dc rfl
    have hrte : RT K s wk s.sl (ev i) e := (hd.em i e he).sta hls.cpl.sta (by omega)
    have hrdy := hd.rdy hif hwf he
    obtain ⟨Li, hLie⟩ : ∃ Li, Ls[i]? = some Li := ⟨_, List.getElem?_eq_getElem (show i < Ls.length by omega)⟩
    have hIMe := hLi i e Li he hLie
    have h9e := hL9 i e he
    obtain ⟨eb, ecs, rfl, _, heb, hecs, hev⟩ := (RowT.tr (.sta hls.cpl.sta (by omega) _) hd.er) i hlti
    have hevc := cell_of hecs hev
    refine zst ?_
    refine WU.yld rfl rfl rfl (yld_load_c rfl (by rw [Nat.mul_one, Nat.zero_add]; exact hevc)) ?_
    refine zst ?_
    refine WU.stp rfl rfl rfl (stp_und hsc.sh dck erk hrte hrdy rfl) ?_
    rintro r _ ⟨rfl, y, hry, hly, huy, _⟩
    have hify : isIf y := norm_if (by rw [← huy]; exact h9e)
    obtain ⟨b2, rfl, _, hg2⟩ := hry.lit hly
    rw [hify.dyn]
    refine zst ?_
    refine WU.stp rfl rfl rfl (stp_call rfl (c_isTypeParam hsc.sh dck erk hrte hrdy)) ?_
    rintro _ _ ⟨rfl, rfl⟩
    refine zst ?_
    refine WU.stp rfl rfl rfl (stp_call rfl (c_assert wk)) ?_
    rintro _ _ rfl
    -- the embedded one's rank is less
    obtain ⟨jy, hjy, hrky⟩ : ∃ jy, jy < k ∧ rk K.D y jy := by
      have h1 := hrk.1
      cases k with
      | zero => exact h1.elim
      | succ k' =>
        have h2 := h1 (by rw [hif.under]; exact hd.k9) (j + i) e (by rw [hif.under]; exact he) (by rw [hif.under, hd.cnt]; omega)
        obtain ⟨jy, h3, h4⟩ := rk_exists h2
        exact ⟨jy, by omega, rk_congr (huy.trans (hify.under).symm) h4⟩
    have hIfk : ∀ c u j', s.g c = some u → isIf u → rk K.D u j' → j' ≤ jy → IfS K s wk (PX p tb ps pa v) c u := fun c' u j' hc hu hr hj' => by
      refine hls.ifs c' u hc hu (fun e => ?_) (hI c' u j' hc hu hr (by omega))
      subst e
      rw [hgb] at hc
      cases hc
      have := rk_unique hrk hr
      omega
    refine zst ?_
    refine WU.stp rfl rfl rfl (stp_call rfl (ih jy hjy b2 y hg2 hify hrky wk (PX p tb ps pa v) 0 hsck (hpx wk v l fbs hszk hA) (hpxs wk v l fbs hA) hIfk)) ?_
    rintro _ w2 ⟨cp2, tb2, ms2, fb2, rfl, hts2, hper2⟩
    obtain ⟨ms0, hms0, hpm2⟩ := hts2.im
    have hms0' : ms0 = Li := (hms0.congr ((hify.under).trans huy.symm)).det hIMe
    have hnd2 := hts2.srt.nodup
    have hlm2 : ms2.length ≤ 1073741824 := by
      obtain ⟨_, ⟨⟨d, v, hdl, hsh⟩, hwt, _⟩, _⟩ := hsck.kn b2 y hg2 hify
      have h1 := IM_len hsc.sh hms0 hdl hsh
      have h2 := hsc.wd
      have h3 := hpm2.length_eq
      replace hwt : wt y ≤ 268435456 := hwt
      omega
    have hnd0 : (Li.map keyM).Nodup := by rw [← hms0']; exact (hpm2.map keyM).nodup_iff.1 hnd2
    have hls2 := hls.call cp2 hper2
    have hva2 : AllQ w2 (PX p tb ps pa v) va := hva.tr (.sta cp2.sta (by omega) _)
    obtain ⟨a2, c2, v2, htb2⟩ := hts2.tb
    have htt2 := htb2.ht
    have hout : ∀ k', ((ms2.take k').foldl addM out).length ≤ 1073741824 := fun k' => by
      have h1 := foldl_take ms2 out k'
      have h2 := (addM_perm hnd0 (hms0' ▸ hpm2) hpm).length_eq
      have h3 : mergeE (Ls.take (i + 1)) (ownM (norm t) j) = Li.foldl addM (mergeE (Ls.take i) (ownM (norm t) j)) := by
        rw [List.take_add_one, hLie, Option.toList_some, mergeE_snoc]
      rw [← h3] at h2
      have h4 := mergeE_take Ls (i + 1) (ownM (norm t) j)
      omega
    clear hts2 hper2 hIfk hls hC hA hva cp2 hsck hszk hbk dck erk hrte hrdy hecs hev hevc hry
    refine zst ?_
    refine W.loop (σ := Nat × Value) (fun (q, _) => [(124, .int .i64 q), (123, .int .i64 ms2.length), (122, .slice a2 ms2.length c2), (18, .int .i64 0), (22, pt tb2), (19, .bool false), (76, .int .i64 i), (75, .int .i64 en), (74, .slice (some ⟨eb, 0, none⟩) en ec), (14, va), (15, .bool false), (11, .func (.func 131) #[] #[pt ps, pt pa, pt pp]), (9, pt pa), (2, pt b), (0, .pointer none)])
      (fun (q, v) D' wk => D' = [] ∧ q ≤ ms2.length ∧ AllQ wk (PX p tb ps pa v) va ∧ TB K s wk (PX p tb ps pa v) tb2 a2 ms2.length c2 v2 ms2 fb2 ∧ LS K s w p b tb ps pa pp rr (ifc ma j mc' (some ⟨eb, 0, none⟩) en ec (pt tb)) (.slice (some ⟨g0, 0, none⟩) 1 c0) ((ms2.take q).foldl addM out) v wk)
      (fun (q, _) => ms2.length - q) (0, v) ⟨rfl, Nat.zero_le _, hva2, htb2, hls2⟩ (by exact sub_of ⟨rfl, rfl, rfl, rfl, rfl, rfl, rfl, rfl, rfl, rfl, rfl, rfl, rfl, rfl, rfl, trivial⟩) ?_
    clear hls2 hva2 htb2 htt2
    clear l fbs
    rintro ⟨q, v⟩ D' wk ⟨rfl, hq, hva, htb2, hls⟩
    obtain ⟨l, fbs, hA, hC⟩ := hls.ex
    have hsck : SC K s wk true := hsc.sta hls.cpl.sta (by omega)
    have hszk := hls.sz
    have htt2 := htb2.ht
    refine zst ?_
    by_cases hltq : q < ms2.length
    · rw [show decide ((q : Int) < (ms2.length : Int)) = true by simpa using hltq]
      obtain ⟨rb, rfl, hrc⟩ := htb2.row.row.cell hltq
      have hmq := List.getElem?_eq_getElem hltq
      generalize ms2[q] = m at hmq
      have hm := htb2.mth q m hmq
      have htk : ms2.take (q + 1) = ms2.take q ++ [m] := by rw [List.take_add_one, hmq]; rfl
      refine zst ?_
      refine WU.yld rfl rfl rfl (yld_load_c rfl hrc) ?_
      refine zst ?_
      refine WU.stp rfl rfl rfl (stp_callc (caps := [pt ps, pt pa, pt pp]) rfl rfl (c_addC K s ps ps pa pp rr (fb2 q) l v fbs _ m 0 false wk hA (by omega) hsck.prp hsck.pkg hC hm hslps (hout q))) ?_
      rintro _ w' ⟨bl, l', v', fbs', hA', hC', hK', hg'⟩
      have xt : Tr K wk w' (PX p tb ps pa v) (PX p tb ps pa v') := PX.tr hK' hg'
      refine zst ?_
      refine ⟨(q + 1, v'), by show ms2.length - (q + 1) < ms2.length - q; omega, ⟨rfl, by omega, hva.tr xt, htb2.tr xt (.sameM (fun d hd => bl.block d (hslps d hd)) fun _ h => h), ?_⟩, sub_of ⟨rfl, rfl, rfl, rfl, rfl, rfl, rfl, rfl, rfl, rfl, rfl, rfl, rfl, rfl, rfl, trivial⟩⟩
      rw [htk, foldl_snoc]
      exact hls.step bl hA' hC' hK' hg' hwp hbt htt hslps
    rw [show decide ((q : Int) < (ms2.length : Int)) = false by simpa using hltq]
    obtain rfl : q = ms2.length := by omega
    rw [List.take_of_length_le (Nat.le_refl _)] at hls hC
    obtain ⟨ga, ca, ta, csa, rfl, _⟩ := hva.all.open
    obtain ⟨ga2, ca2, ta2, csa2, rfl, _⟩ := htb2.all.all.open
    refine zst ?_
    refine WU.stp rfl rfl rfl (stp_call rfl (c_intersectTermLists _ _ wk (PX p tb ps pa v) (hpx wk v l fbs hszk hA) hva.all htb2.all)) ?_
    rintro _ w' ⟨u, rfl, hu, xu⟩
    refine zst ?_
    refine ⟨(i + 1, v, u), by show en - (i + 1) < en - i; omega, ⟨rfl, by omega, hu, _, hls.ext xu, ?_⟩, sub_of ⟨rfl, rfl, rfl, rfl, rfl, rfl, rfl, rfl, rfl, trivial⟩⟩
    rw [List.take_add_one, hLie, Option.toList_some, mergeE_snoc]
    exact addM_perm hnd0 (hms0' ▸ hpm2) hpm
  rw [show decide ((i : Int) < (en : Int)) = false by simpa using hlti]
  obtain rfl : i = en := by omega
  rw [List.take_of_length_le (by omega)] at hpm
  have hol : out.length ≤ 1073741824 := by rw [hpm.length_eq]; exact hlenF
  have htk := hls.ht
  have hpak := hA.al
  have hbk2 := hls.hb
  obtain ⟨sa, scp, hsh, _, _⟩ := Own.shape hA.ow
  have hfl : (fbs.map fun b => [pt b]).length = out.length := by rw [List.length_map, hC.len]
  rw [hfl] at hsh
  subst hsh
  have hownpa : ∀ d, (Value.slice sa out.length scp).ownBlock = some d → d ≠ pa := fun d hd => by
    obtain ⟨cs, k1⟩ := Own.cellsOf hA.ow d hd
    exact Has.tne k1 hpak (by decide)
  obtain ⟨gv, cv, tv, csv, rfl, _⟩ := hva.all.open
  refine zst ?_
  refine WU.stp0 rfl rfl (stp_store_cell rfl rfl rfl rfl) ?_
  rintro _ w1 u1
  have ht1 : Has w1 tb (.cells #[.bool false, .slice none 0 0, .slice (some ⟨g0, 0, none⟩) 1 c0, .bool false] tTS) := u1.has
  have hb1 : Has w1 b (.cells (ifc ma j mc' ea i ec (pt tb)) tIF) := ⟨(u1.oth b (Ne.symm htb)).trans hbk2.at_⟩
  have hpa1 : Has w1 pa (.cells #[.slice sa out.length scp] tMS) := ⟨(u1.oth pa (by omega)).trans hpak.at_⟩
  have q1 := u1.size
  have hsl1 : ∀ d, s.sl d → w1.heap[d]? = wk.heap[d]? := fun d hd => u1.oth d (by have := hslp d hd; omega)
  have hA1 : AM w1 ps ps pa pp rr l (.slice sa out.length scp) fbs := hA.kept fun d o ho hno => (u1.oth d fun e => by
    subst e
    have := htk.at_.symm.trans ho
    exact (hno _ _ (Option.some.inj this).symm).2 rfl).trans ho
  have hC1 : Col K s w1 out fbs l := hC.tr (.sameM hsl1 fun _ h => h)
  have st1 : Sta K 1 w w1 := (hls.cpl.upd_new u1 (by omega)).sta
  have hsc1 := hsc.sta st1 (by omega)
  refine zst ?_
  cases hn0 : ((out.length : Int) != 0)
  · obtain rfl : out = [] := by
      have : (out.length : Int) = 0 := by simpa using hn0
      exact List.eq_nil_of_length_eq_zero (by omega)
    refine zst ?_
    refine WU.stp0 rfl rfl (stp_store_cell rfl rfl rfl rfl) ?_
    rintro _ w5 u5
    have ht5 := u5.has
    have hb5 : Has w5 b (.cells (ifc ma j mc' ea i ec (pt tb)) tIF) := ⟨(u5.oth b (Ne.symm htb)).trans hb1.at_⟩
    have q5 := u5.size
    refine zst ?_
    refine fin1 (.inl rfl) rfl rfl (hls.done (wz := w5) (ms := []) (a := none) (c := 0) (fb := fun _ => 0) hgb (hps b hd.pb) htbp hp (by omega) htt hltb hslp ⟨u5.os.trans u1.os, u5.tape.trans u1.tape, u5.output.trans u1.output, by omega⟩ (fun d o ho hd1 _ => (u5.oth d hd1).trans ((u1.oth d hd1).trans ho)) ht5 (fun i hi => absurd hi (Nat.not_lt_zero _)) (.refl _) (fun i j m m' _ hi => by simp at hi) (fun i m hm => by simp at hm) hva hpm hIM)
  · refine zst ?_
    refine WU.stp rfl rfl rfl (stp_call rfl (c_sortC ps ps pa pp rr l _ fbs out w1 hA1 hC1 hsc1.prp hsc1.pkg hgps hol)) ?_
    rintro _ w2 ⟨bl2, hk2, a', c', ms, fb', hv', hpm', hsrt, hrow, hmth⟩
    cases hv'
    have ht2 := Has.bel bl2 htt ht1
    have hb2 := Has.bel bl2 hbt hb1
    have hpa2 : Has w2 pa (.cells #[.slice sa out.length scp] tMS) := ⟨hk2 pa _ hpa1.at_ fun e => hownpa pa e rfl⟩
    refine zst ?_
    refine W.regD [(0, .q), (1, .q), (2, .q), (3, .q), (4, .q), (5, .q), (6, .q), (7, .z)] (by kernel_rfl) (by kernel_rfl) rfl ?_
    intro w3 x3 _
    have ht3 := ht2.ext' x3
    have hb3 := hb2.ext' x3
    have hpa3 := hpa2.ext' x3
    refine zsd ?_
    refine WD.last0 rfl rfl rfl (stp_store_cell rfl rfl rfl rfl) ?_
    rintro _ w4 u4
    have ht4 := u4.has
    have hb4 : Has w4 b (.cells (ifc ma j mc' ea i ec (pt tb)) tIF) := ⟨(u4.oth b (Ne.symm htb)).trans hb3.at_⟩
    refine zsd ?_
    refine zst ?_
    refine WU.stp0 rfl rfl (stp_store_cell rfl rfl rfl rfl) ?_
    rintro _ w5 u5
    have ht5 := u5.has
    have hb5 : Has w5 b (.cells (ifc ma j mc' ea i ec (pt tb)) tIF) := ⟨(u5.oth b (Ne.symm htb)).trans hb4.at_⟩
    have q2 := bl2.size
    have q3 := x3.size
    have q4 := u4.size
    have q5 := u5.size
    have hlms : ms.length = out.length := hpm'.length_eq
    refine zst ?_
    refine fin1 (.inl rfl) rfl rfl (hls.done (wz := w5) (ms := ms) (a := sa) (c := scp) (fb := fb') hgb (hps b hd.pb) htbp hp (by omega) htt hltb hslp
      ⟨u5.os.trans (u4.os.trans (x3.below.os.trans (bl2.os.trans u1.os))), u5.tape.trans (u4.tape.trans (x3.below.tape.trans (bl2.tape.trans u1.tape))), u5.output.trans (u4.output.trans (x3.below.output.trans (bl2.output.trans u1.output))), by omega⟩
      (fun d o ho hd1 hd2 => ?_) (by rw [hlms]; exact ht5) (fun i hi => ?_) hpm' hsrt (fun i m hm => (hmth i m hm).tr (.sameM (fun d hd => (hsl1 d hd).symm) fun _ h => h)) hva hpm hIM)
    · have k1 := (u1.oth d hd1).trans ho
      have k2 := hk2 d o k1 hd2
      have k3 := (x3.below.block d (Array.getElem?_eq_some_iff.1 k2).1).trans k2
      exact (u5.oth d hd1).trans ((u4.oth d hd1).trans k3)
    · obtain ⟨g, cs, r1, r2, r3, r4⟩ := hrow i (by omega)
      have r5 := r3.ext' x3
      exact ⟨g, cs, r1, r2, ⟨(u5.oth g (by omega)).trans ((u4.oth g (by omega)).trans r5.at_)⟩, r4⟩
/-- computeInterfaceTypeSet -/
theorem c_cits (K : Cfg) (s : Gs) (f : Bool) (k : Nat) : ∀ (b : Nat) (t : Ty), s.g b = some t → isIf t → rk K.D t k → (f = true ∨ (norm t).count = (norm t).elems.length) → CitsC K s f k b t := by
  induction k using Nat.strongRecOn generalizing f with
  | _ k ih =>
    intro b t hgb hif hrk hfe w p pos hsc hp hps hI
    rcases hI b t k hgb hif hrk (Nat.le_refl _) with ⟨tb, ms, fb, h⟩ | h
    · exact (c_cits_done w pos b tb h.ib).mono fun e w' ⟨r, he, h1, h2⟩ => ⟨r, he, by subst h2; exact .rfl' _ _, tb, ms, fb, h1, by subst h2; exact h, fun c u _ _ hs => by subst h2; exact hs⟩
    · exact cits_walk K s f k b t hgb hif hrk hfe (fun j hj c u hc hu hr => ih j hj true c u hc hu hr (.inl rfl)) w p pos hsc hp hps hI h
end Go.Proofs.YtelmnkfdpnkpoaaGreatDoor
namespace Go.Kd
section
variable {P : Program} {n : Nat} {ops : List Oper} {Q : Post} {D : List Deferred} {e : Env} {w : World}
/-- some operations are done; k are left -/
structure WT (P : Program) (n : Nat) (ops : List Oper) (Q : Post) (listed : Array Bool) (k : Nat) (D : List Deferred) (e : Env) (w : World) : Prop where
  out : Closed .any ops.toArray listed → ∀ a, Fr n D e a → wpE P .any ops.toArray (post n Q) k listed a w
theorem W.regT [hm : Mixed P] {id : Nat} {l : List Oper} (h : ∀ w', Ext w w' → WT P n l Q (Array.replicate l.length false) l.length D e w') : W P n (.region id l.toArray true) Q D e w := ⟨fun a ha => by
  refine wp_region_any hm.mixed (wpAny_of_wpE _ _ _ _ ?_)
  have hx : Ext w { w with drawn := w.drawn + 1 } := ⟨⟨rfl, rfl, rfl, Nat.le_refl _, fun _ _ => rfl⟩⟩
  have := (h _ hx).out (fun k ok _ h => by simp [Array.getD] at h) a ha
  simpa using this⟩
/-- the rest in one order -/
theorem WT.lin {listed : Array Bool} {k : Nat} (L : List (Nat × Kn)) (hs : Region.noSelect ops.toArray = true) (hL : ordOk .any ops.toArray L listed = true) (hlen : L.length = k) (h : WD P n ops Q L D e w) : WT P n ops Q listed k D e w := ⟨fun hcl a ha => by
  subst hlen
  exact wpE_of_wpL (md := .any) (Q := post n Q) (fun c a w hq => hq) hs L listed a w hcl hL (h.out a ha)⟩
/-- a quiet one first -/
theorem WT.q {listed : Array Bool} {k : Nat} (i : Nat) {o : Oper} {d : Nat} {v : Value} (hs : Region.noSelect ops.toArray = true) (hr : (Region.ready .any ops.toArray listed).contains i = true) (hf : Region.free .any ops.toArray listed i = true) (hi : ops[i]? = some o) (hd : o.dst = some d) (hl : Nat.blt d n = true)
    (hg : wn ops e o.guard = some true) (h : Yld P e o v w) (hk : WT P n ops Q (listed.setIfInBounds i true) k D ((d, v) :: e) w) : WT P n ops Q listed (k + 1) D e w := ⟨fun hcl a ha => by
  have hr' : i ∈ Region.ready .any ops.toArray listed := by simpa using hr
  have hi' : ops.toArray[i]? = some o := by simpa using hi
  have hp : Fr n D ((d, v) :: e) (a.put o.dst v) := by rw [hd]; exact ha.put (by simpa [Nat.blt_eq] using hl) v
  exact wpE_first hi' (Region.noSelect_spec hs) (fun c a w hq => hq) k listed a w hcl (Region.free_spec hi' hf) hr' (.inl ⟨wn_spec hg ha, fun w' hx => h.out _ ha.ag w' hx⟩) (hk.out (hcl.step hr') _ hp)⟩
/-- one of two comes next -/
theorem WT.two {listed : Array Bool} {k i j : Nat} {o o' : Oper} {d d' : Nat} {R R' : Value → World → Prop} (hr : (Region.ready .any ops.toArray listed == [i, j]) = true)
    (hi : ops[i]? = some o) (hd : o.dst = some d) (hl : Nat.blt d n = true) (hg : wn ops e o.guard = some true) (h : Stp P e o w R)
    (hi' : ops[j]? = some o') (hd' : o'.dst = some d') (hl' : Nat.blt d' n = true) (hg' : wn ops e o'.guard = some true) (h' : Stp P e o' w R')
    (hk : ∀ v w', R v w' → Ext w w' ∧ WT P n ops Q (listed.setIfInBounds i true) k D ((d, v) :: e) w') (hk' : ∀ v w', R' v w' → Ext w w' ∧ WT P n ops Q (listed.setIfInBounds j true) k D ((d', v) :: e) w') :
    WT P n ops Q listed (k + 1) D e w := ⟨fun hcl a ha => by
  have hrr : Region.ready .any ops.toArray listed = [i, j] := by simpa using hr
  have hri : i ∈ Region.ready .any ops.toArray listed := by rw [hrr]; simp
  have hrj : j ∈ Region.ready .any ops.toArray listed := by rw [hrr]; simp
  have hi2 : ops.toArray[i]? = some o := by simpa using hi
  have hj2 : ops.toArray[j]? = some o' := by simpa using hi'
  refine ⟨fun h0 => (by rw [h0] at hrr; cases hrr), fun m hm => ?_⟩
  rw [hrr] at hm
  simp only [List.mem_cons, List.not_mem_nil, or_false] at hm
  unfold wpOp
  rcases hm with rfl | rfl
  · simp only [hi2]
    rw [wn_spec hg ha, if_pos rfl]
    exact .inl (upon_of_stp ha h fun v w' hR => ⟨.inl (hk v w' hR).1, (hk v w' hR).2.out (hcl.step hri) _ (by rw [hd]; exact ha.put (by simpa [Nat.blt_eq] using hl) v)⟩)
  · simp only [hj2]
    rw [wn_spec hg' ha, if_pos rfl]
    exact .inl (upon_of_stp ha h' fun v w' hR => ⟨.inl (hk' v w' hR).1, (hk' v w' hR).2.out (hcl.step hrj) _ (by rw [hd']; exact ha.put (by simpa [Nat.blt_eq] using hl') v)⟩)⟩
/-- a cut behind the first part -/
theorem W.cutW {x y : Code} (I : Env → World → Prop) (h1 : W P n x (fun x' D' e' w' => x' = .normal ∧ D' = [] ∧ I e' w') D e w) (h2 : ∀ e' w', I e' w' → W P n y Q [] e' w') : W P n (.seq x y) Q D e w :=
  W.seq (h1.mono fun x' D' e' w' ⟨hx, hD, hI⟩ => by subst hx hD; exact thn_normal (h2 e' w' hI))
end
end Go.Kd
namespace Go.Proofs.YtelmnkfdpnkpoaaGreatDoor
open Go Go.Kd
set_option maxRecDepth 100000

/-! ### Nothing depends on where the row of names lies -/
theorem RowT.cfg {K K' : Cfg} {w : World} {p : Nat → Prop} {a : Option Addr} {n : Nat} {f : Nat → Value} (hp : ∀ b, p b → b ≠ K'.nb) (h : RowT K w p a n f) : RowT K' w p a n f := fun i hi => by
  obtain ⟨b, cs, h1, h2, _, h4⟩ := h i hi
  exact ⟨b, cs, h1, h2, hp b h2, h4⟩
theorem RT.cfg {K K' : Cfg} {s : Gs} {w : World} {p : Nat → Prop} (hq : ∀ b, p b → b ≠ K'.nb) {v : Value} {t : Ty} (h : RT K s w p v t) : RT K' s w p v t := by
  induction h with
  | basic t b i nb h0 h1 h2 hp h3 h4 => exact .basic t b i nb h0 h1 h2 hp h3 h4
  | error t h0 h1 => exact .error t h0 h1
  | any t b h0 h1 hp h2 h3 => exact .any t b h0 h1 hp h2 h3
  | named t v h0 h1 => exact .named t v h0 h1
  | ptr t e v b h0 h1 _ hp h3 h4 ih => exact .ptr t e v b h0 h1 ih hp h3 h4
  | slice t e v b h0 h1 _ hp h3 h4 ih => exact .slice t e v b h0 h1 ih hp h3 h4
  | array t e v b h0 h1 _ hp h3 h4 ih => exact .array t e v b h0 h1 ih hp h3 h4
  | map t k e u v b h0 h1 _ _ hp h3 h4 ih1 ih2 => exact .map t k e u v b h0 h1 ih1 ih2 hp h3 h4
  | chan t e v b h0 h1 _ hp h3 h4 ih => exact .chan t e v b h0 h1 ih hp h3 h4
  | struct t b fa fc ta tc vb vv tg h0 _ h2 hp h3 h4 h5 h6 ih => exact .struct t b fa fc ta tc vb vv tg h0 ih h2 hp h3 h4 h5 h6
  | func t b ps rs vb vv h0 _ h2 hp h3 h4 h5 h6 ih => exact .func t b ps rs vb vv h0 ih h2 hp h3 h4 h5 h6
  | iface t b ma mc ea ec fb me sv ev h0 _ h2 h3 _ hp h5 h6 h7 h8 ih1 ih2 => exact .iface t b ma mc ea ec fb me sv ev h0 ih1 h2 h3 ih2 hp h5 h6 (h7.cfg hq) h8
theorem TSv.cfg {K K' : Cfg} {s : Gs} {w : World} {p : Nat → Prop} (hq : ∀ b, s.sl b → b ≠ K'.nb) (hD : K'.D = K.D) {b : Nat} {t : Ty} (h : TSv K s w p b t) : TSv K' s w p b t := by
  obtain ⟨tb, ms, fb, h⟩ := h
  exact ⟨tb, ms, fb, h.pb, h.ptb, h.ib, by rw [hD]; exact h.im, h.srt, h.tsb, fun i m hm => by
    obtain ⟨pk, sv, h1, h2, h3, h4, h5⟩ := h.mth i m hm
    exact ⟨pk, sv, h1, h2, h3, h4.cfg hq, h5⟩⟩

/-! ### The type of error -/
def strTy : Ty := .mk 0 16 0 false [] eB eB false
theorem legal_str (D : List De) : Legal D strTy := .mk _ (fun i e he => by simp [strTy, Ty.elems] at he) ⟨fun h => by simp [strTy, Ty.kind] at h, fun h => by simp [strTy, Ty.kind] at h, fun h => by simp [strTy, Ty.kind] at h, fun h => by simp [strTy, Ty.kind] at h, fun h => by simp [strTy, Ty.kind] at h, fun h => by simp [strTy, Ty.kind] at h, fun h => by simp [strTy, Ty.kind] at h, fun h => by simp [strTy, Ty.kind] at h⟩
theorem eB_list : eB.toList = [] := by rw [Lib.toList_data]
theorem legal_errFn (D : List De) : Legal D errFn := .mk _ (fun i e he => by
    match i with
    | 0 => simp [errFn, Ty.elems] at he; subst he; exact legal_str D
    | i + 1 => simp [errFn, Ty.elems] at he) ⟨fun h => by simp [errFn, Ty.kind] at h, fun h => by simp [errFn, Ty.kind] at h, fun h => by simp [errFn, Ty.kind] at h, fun _ => .inl fun t ht => by simp [errFn, Ty.elems, Ty.count] at ht, fun _ => .inl fun t ht => by
    simp [errFn, Ty.elems, Ty.count] at ht
    subst ht
    exact eB_list, fun h => by simp [errFn, Ty.kind] at h, fun h => by simp [errFn, Ty.kind] at h, fun h => by simp [errFn, Ty.kind] at h⟩
def errNm : ByteArray := ⟨#[69, 114, 114, 111, 114]⟩
theorem errNm_list : errNm.toList = [69, 114, 114, 111, 114] := by rw [Lib.toList_data]; rfl
theorem errNm_id : Ident errNm.toList := by
  rw [errNm_list]
  refine ⟨by simp, .inr fun i c hc => ?_⟩
  match i with
  | 0 | 1 | 2 | 3 | 4 => left; simp at hc; subst hc; decide
  | i + 5 => simp at hc
theorem errT_el {i : Nat} {e : Ty} (h : errT.elems[i]? = some e) : i = 0 ∧ e = errFn := by
  match i with
  | 0 => simp [errT, Ty.elems] at h; exact ⟨rfl, h.symm⟩
  | i + 1 => simp [errT, Ty.elems] at h
theorem im_err (D : List De) : IM D errT (ownM errT 1) := IM.of (L := []) (u := errT) (c := 1) (by rw [under_lit isLit_errT.1 isLit_errT.2]; exact under_norm_err) rfl rfl (by decide) rfl fun j e l _ hl => by simp at hl
theorem legal_errT (D : List De) : Legal D errT := .mk _ (fun i e he => by rw [(errT_el he).2]; exact legal_errFn D) ⟨fun h => by simp [errT, Ty.kind] at h, fun h => by simp [errT, Ty.kind] at h, fun h => by simp [errT, Ty.kind] at h, fun h => by simp [errT, Ty.kind] at h, fun h => by simp [errT, Ty.kind] at h,
    fun _ i e he _ => by
      rw [(errT_el he).2]
      show errNm.toList ≠ us
      rw [errNm_list]
      decide, fun _ => by
      show Uniq [errNm.toList]
      exact ⟨fun i s hs => by
        match i with
        | 0 => simp at hs; subst hs; exact errNm_id
        | i + 1 => simp at hs, fun i j s hij hi hj => by
        match j with
        | 0 => omega
        | j + 1 => simp at hj⟩, fun _ => ⟨_, im_err D, fun i e he hc => by
      exfalso
      obtain ⟨h1, _⟩ := errT_el he
      subst h1
      simp [errT, Ty.count] at hc, fun i e he hc => by
      exfalso
      obtain ⟨h1, _⟩ := errT_el he
      subst h1
      simp [errT, Ty.count] at hc⟩⟩
theorem wf_errT (D : List De) : WfI D errT := ⟨⟨0, false, Nat.zero_le _, shaped_err D⟩, by
  unfold errT
  simp [wt, wts]
  decide, legal_errT D⟩
theorem rk_errT (D : List De) : ∃ k, rk D errT k := by
  obtain ⟨k, hk⟩ := (im_err D).rank
  obtain ⟨j, _, h⟩ := rk_exists hk
  exact ⟨j, h⟩

set_option maxHeartbeats 4000000 in
theorem c_NewError (D : List De) (pk : Int → Value) (w : World) (hp : Prp w) (hg : gP < w.heap.size) (hD : ShapedD D) (hwd : wtD D ≤ 16777216) (hpk : ∀ n, n = 0 ∨ n = 1 → ∃ c x, pk n = pt c ∧ Has w c (.cells #[.string (pth n), .string x] tPK)) :
    Calls Tryz.prog 65 #[] w (Ret fun r w' => Ext w w' ∧ ∃ (b : Nat) (s : Gs), r = pt b ∧ s.nm = (fun _ => none) ∧ s.er = .iface tNP (pt b) ∧ s.pk = pk ∧ (∀ d, s.sl d → w.heap.size ≤ d ∧ d < w'.heap.size) ∧ ErrI ⟨w.heap.size, 0, D⟩ s w' ∧
      ∀ c u, s.g c = some u → w.heap.size ≤ c ∧ c < w'.heap.size ∧ (isIf u → WfI D u ∧ RT ⟨w.heap.size, 0, D⟩ s w' s.sl (.iface tPI (pt c)) u ∧ TSv ⟨w.heap.size, 0, D⟩ s w' (fun _ => True) c u)) := by
  refine W.enter (args := []) Tryz.func65 rfl Tryz.ntmps65 rfl rfl ?_
  refine zst ?_
  refine WU.stp rfl rfl rfl (stp_call rfl (c_NewTypeName 0 none ⟨#[101, 114, 114, 111, 114]⟩ w)) ?_
  rintro _ w1 ⟨ob, rfl, n1⟩
  refine zst ?_
  refine WU.stp rfl rfl rfl (stp_call rfl (c_newNamed ob (.pointer none) ⟨#[101, 114, 114, 111, 114]⟩ w1 n1.has)) ?_
  rintro _ w3 ⟨b, w2, rfl, n2, u3⟩
  refine zst ?_
  refine WU.stp rfl rfl rfl (stp_call rfl (c_newVar 3 0 none eB tNP (pt b) w3)) ?_
  rintro _ w4 ⟨v1, rfl, n4⟩
  refine zst ?_
  refine WU.stp rfl rfl rfl (stp_call rfl (c_Typ 17 w4 (by decide))) ?_
  rintro _ w5 ⟨bas, ix, bnm, rfl, hbg, hbas, x5⟩
  refine zst ?_
  refine WU.stp rfl rfl rfl (stp_call rfl (c_newVar 5 0 none eB 123 (pt bas) w5)) ?_
  rintro _ w6 ⟨v2, rfl, n6⟩
  refine zst ?_
  refine WU.stp rfl rfl rfl (stp_buildSlice rfl rfl rfl rfl rfl) ?_
  rintro _ w7 ⟨r7, rfl, n7⟩
  refine zst ?_
  refine WU.stp rfl rfl rfl (stp_call rfl (c_NewTuple' (some ⟨r7, 0, none⟩) 1 1 w7)) ?_
  rintro _ w8 ⟨q8, rfl, x8, ht8⟩
  obtain ⟨tup, rfl, _, htg, htup⟩ : ∃ b, q8 = some ⟨b, 0, none⟩ ∧ 0 < 1 ∧ w7.heap.size ≤ b ∧ Has w8 b (.cells #[.slice (some ⟨r7, 0, none⟩) 1 1] 206) := ht8.resolve_left fun h => by cases h.2
  refine zst ?_
  refine WU.stp rfl rfl rfl (by first | exact stp_box rfl rfl | exact stp_box1 rfl rfl) ?_
  rintro _ w9 ⟨sg, rfl, n9⟩
  refine zst ?_
  refine WU.stp rfl rfl rfl (stp_call rfl (c_NewFunc 0 none ⟨#[69, 114, 114, 111, 114]⟩ sg w9)) ?_
  rintro _ w10 ⟨fn, rfl, n10⟩
  refine zst ?_
  refine WU.stp rfl rfl rfl (stp_buildSlice rfl rfl rfl rfl rfl) ?_
  rintro _ w11 ⟨r11, rfl, n11⟩
  refine zst ?_
  refine WU.stp rfl rfl rfl (by first | exact stp_box rfl rfl | exact stp_box1 rfl rfl) ?_
  rintro _ w12 ⟨ib, rfl, n12⟩
  have hl5 := hbas.lt
  have e1 := n1.num
  have e2 := n2.num
  have e4 := n4.num
  have e6 := n6.num
  have e7 := n7.num
  have e9 := n9.num
  have e10 := n10.num
  have e11 := n11.num
  have e12 := n12.num
  have z1 := n1.size
  have z2 := n2.size
  have z3 := u3.size
  have z4 := n4.size
  have z5 := x5.size
  have z6 := n6.size
  have z7 := n7.size
  have z8 := x8.size
  have z9 := n9.size
  have z10 := n10.size
  have z11 := n11.size
  have z12 := n12.size
  have x3_12 : Ext w3 w12 := (((((((n4.ext.trans x5).trans n6.ext).trans n7.ext).trans x8).trans n9.ext).trans n10.ext).trans n11.ext).trans n12.ext
  have hb3 : Has w3 b (.cells (nmc (pt ob) false 0 0 .nilIface .nilIface (.slice none 0 0)) tNM) := ⟨(u3.oth b (by omega)).trans n2.has.at_⟩
  have hob3 := u3.has
  have hb12 := hb3.ext' x3_12
  have hob12 := hob3.ext' x3_12
  have hbas12 := (((((((hbas.ext' n6.ext).ext' n7.ext).ext' x8).ext' n9.ext).ext' n10.ext).ext' n11.ext).ext' n12.ext)
  have hv2 := (((((n6.has.ext' n7.ext).ext' x8).ext' n9.ext).ext' n10.ext).ext' n11.ext).ext' n12.ext
  have hr7 := ((((n7.has.ext' x8).ext' n9.ext).ext' n10.ext).ext' n11.ext).ext' n12.ext
  have htp := (((htup.ext' n9.ext).ext' n10.ext).ext' n11.ext).ext' n12.ext
  have hsg := ((n9.has.ext' n10.ext).ext' n11.ext).ext' n12.ext
  have hfn := (n10.has.ext' n11.ext).ext' n12.ext
  have hr11 := n11.has.ext' n12.ext
  have hib := n12.has
  have x0_12 : Ext w w12 := ⟨(bel_upd ((n1.ext.trans n2.ext).below) u3 (by omega)).trans (x3_12.below.mono (by omega))⟩
  let s : Gs := ⟨fun _ => none, fun c => if c = b then some errB else if c = ib then some errT else if c = sg then some errFn else if c = bas then some strTy else none, .iface tNP (pt b), pk, fun d => w.heap.size ≤ d ∧ d < w12.heap.size⟩
  let K : Cfg := ⟨w.heap.size, 0, D⟩
  have hgb : s.g b = some errB := by show (if b = b then _ else _) = _; rw [if_pos rfl]
  have hgi : s.g ib = some errT := by show (if ib = b then _ else _) = _; rw [if_neg (by omega), if_pos rfl]
  have hgs : s.g sg = some errFn := by show (if sg = b then _ else _) = _; rw [if_neg (by omega), if_neg (by omega), if_pos rfl]
  have hgba : s.g bas = some strTy := by show (if bas = b then _ else _) = _; rw [if_neg (by omega), if_neg (by omega), if_neg (by omega), if_pos rfl]
  have hsl : ∀ d, ob ≤ d → d < w12.heap.size → s.sl d := fun d h1 h2 => ⟨by omega, h2⟩
  have rtS : RT K s w12 s.sl (.iface 123 (pt bas)) strTy := .basic strTy bas ix bnm rfl (by decide) (by decide) (hsl _ (by omega) hbas12.lt) hbas12 hgba
  have rtF : RT K s w12 s.sl (.iface tSP (pt sg)) errFn := .func errFn sg (.pointer none) (pt tup) (fun _ => v2) (fun _ => .iface 123 (pt bas)) rfl (fun i e he => by
      match i with
      | 0 => simp [errFn, Ty.elems] at he; subst he; exact rtS
      | i + 1 => simp [errFn, Ty.elems] at he) (fun i e he => by
      match i with
      | 0 => simp [errFn, Ty.elems] at he; subst he; exact ⟨_, _, hsl _ (by omega) hv2.lt, hv2⟩
      | i + 1 => simp [errFn, Ty.elems] at he) (hsl _ (by omega) hsg.lt) ⟨_, hsg⟩ (.inl ⟨rfl, rfl⟩) (.inr ⟨tup, _, _, rfl, Nat.one_pos, hsl _ (by omega) htp.lt, htp, fun i hi => ⟨r7, _, rfl, hsl _ (by omega) hr7.lt, hr7, by
      obtain rfl : i = 0 := by have : i < 1 := hi; omega
      rfl⟩⟩) hgs
  have rtI : RT K s w12 s.sl (.iface tPI (pt ib)) errT := .iface errT ib (some ⟨r11, 0, none⟩) 1 none 0 (fun _ => fn) (fun _ => errFn) (fun _ => .iface tSP (pt sg)) (fun _ => .nilIface) rfl (fun i hi => rtF) (fun i hi => ⟨.pointer none, .inr ⟨rfl, by show expo errNm.toList = true; rw [errNm_list]; decide⟩, hsl _ (by omega) hfn.lt, hfn⟩) (.refl _) (fun i e he => by
      have := (errT_el he).1
      have h1 : errT.count.toNat = 1 := rfl
      omega) (hsl _ (by omega) hib.lt) ⟨_, hib⟩ (fun i hi => ⟨r11, _, rfl, hsl _ (by omega) hr11.lt, hr11, by
      obtain rfl : i = 0 := by have : i < 1 := hi; omega
      rfl⟩) (fun i hi => by have : i < 0 := hi; omega) hgi
  have hginv : ∀ c u, s.g c = some u → (c = b ∧ u = errB) ∨ (c = ib ∧ u = errT) ∨ (c = sg ∧ u = errFn) ∨ (c = bas ∧ u = strTy) := fun c u hc => by
    replace hc : (if c = b then some errB else if c = ib then some errT else if c = sg then some errFn else if c = bas then some strTy else none) = some u := hc
    split at hc
    · rename_i h; cases hc; exact .inl ⟨h, rfl⟩
    split at hc
    · rename_i h; cases hc; exact .inr (.inl ⟨h, rfl⟩)
    split at hc
    · rename_i h; cases hc; exact .inr (.inr (.inl ⟨h, rfl⟩))
    split at hc
    · rename_i h; cases hc; exact .inr (.inr (.inr ⟨h, rfl⟩))
    · cases hc
  have hif : ∀ c u, s.g c = some u → isIf u → c = ib ∧ u = errT := fun c u hc hu => by
    rcases hginv c u hc with ⟨_, rfl⟩ | ⟨h1, h2⟩ | ⟨_, rfl⟩ | ⟨_, rfl⟩
    · rcases hu with h | ⟨_, h⟩ <;> exact absurd h (by decide)
    · exact ⟨h1, h2⟩
    · rcases hu with h | ⟨h, _⟩ <;> exact absurd h (by decide)
    · rcases hu with h | ⟨_, h⟩ <;> exact absurd h (by decide)
  have hI9 : isIf errT := .inl rfl
  have hsc : SC K s w12 false := ⟨hp.ext x0_12, hg, fun n hn => by
      obtain ⟨c, x, h1, h2⟩ := hpk n hn
      exact ⟨c, x, h1, h2.ext' x0_12⟩, fun d hd => hd.2, ⟨b, rfl⟩, hD, hwd, fun h => Bool.noConfusion h, fun c u hc hu => by
      obtain ⟨rfl, rfl⟩ := hif c u hc hu
      exact ⟨by show w.heap.size ≤ _; omega, wf_errT D, rtI⟩⟩
  obtain ⟨k, hk⟩ := rk_errT D
  have hIN : IfN w12 ib := ⟨_, _, _, _, _, _, hib⟩
  refine zst ?_
  refine WU.stp rfl rfl rfl (stp_call rfl (c_cits K s false k ib errT hgi hI9 hk (.inr (by rw [under_norm_err]; rfl)) w12 (fun _ => True) 0 hsc (fun _ _ => trivial) (fun _ _ => trivial) fun c u j hc hu _ _ => by
    obtain ⟨rfl, rfl⟩ := hif c u hc hu
    exact .inr hIN)) ?_
  rintro _ w13 ⟨cp, tb, ms, fb, rfl, hts, _⟩
  have hb13 := cp.cells (by decide) hb12
  have hob13 := cp.cells (by decide) hob12
  have z13 := cp.size
  refine zst ?_
  refine WU.stp rfl rfl rfl (stp_call rfl (c_SetUnderlying b ib tPI (pt ob) (.slice none 0 0) false w13 hb13 rfl rfl)) ?_
  rintro _ w14 u14
  refine zst ?_
  have st : Sta K 2 w13 w14 := .of_upd hb13 u14 (by show w.heap.size ≤ b; omega) ⟨rfl, fun i hi => by
    unfold mc at hi
    simp only [show ¬ tNM = tTY from by decide, show ¬ tNM = tIF from by decide, show ¬ tNM = tSG from by decide, if_false, if_true] at hi
    simp [nilI] at hi
    match i, hi with
    | 0, _ => rfl
    | 1, _ => rfl⟩
  have st2 : Sta K 2 w12 w14 := (cp.sta.lev (by omega)).trans st
  have z14 := u14.size
  have xx : Ext w w14 := ⟨⟨u14.os.trans (cp.os.trans x0_12.below.os), u14.tape.trans (cp.tape.trans x0_12.below.tape), u14.output.trans (cp.output.trans x0_12.below.output), by omega, fun d hd => (u14.oth d (by omega)).trans ((cp.old d hd (by omega)).trans (x0_12.below.block d hd))⟩⟩
  refine fin1 (.inl rfl) rfl rfl ⟨xx, b, s, rfl, rfl, rfl, rfl, fun d hd => ⟨hd.1, by have := hd.2; omega⟩, ⟨b, ob, _, _, _, rfl, hgb, ⟨(u14.oth ob (by omega)).trans hob13.at_⟩, u14.has, rtI.sta st2 (by omega)⟩, fun c u hc => ?_⟩
  refine ⟨?_, ?_, fun hu => ?_⟩
  · rcases hginv c u hc with ⟨rfl, _⟩ | ⟨rfl, _⟩ | ⟨rfl, _⟩ | ⟨rfl, _⟩ <;> omega
  · have := hbas12.lt
    rcases hginv c u hc with ⟨rfl, _⟩ | ⟨rfl, _⟩ | ⟨rfl, _⟩ | ⟨rfl, _⟩ <;> omega
  · obtain ⟨rfl, rfl⟩ := hif c u hc hu
    exact ⟨wf_errT D, rtI.sta st2 (by omega), tb, ms, fb, hts.tr (.sta st (by omega) _) (.sta st (by omega) _)⟩
end Go.Proofs.YtelmnkfdpnkpoaaGreatDoor
namespace Go.Proofs.YtelmnkfdpnkpoaaGreatDoor
open Go Go.Kd
set_option maxRecDepth 100000

abbrev all' : Nat → Prop := fun _ => True
/-- what is known of all blocks that stand for types -/
def IIP (K : Cfg) (s : Gs) (w : World) (P : Nat → Prop) (made : List Nat) : Prop := ∀ c u, s.g c = some u → K.N ≤ c ∧ (isIf u → WfI K.D u ∧ RT K s w s.sl (.iface tPI (pt c)) u ∧ (TSv K s w P c u ∨ (c ∈ made ∧ Fresh w c u)))
abbrev II (K : Cfg) (s : Gs) (w : World) (made : List Nat) : Prop := IIP K s w all' made
theorem AllT.q {w : World} {v : Value} (h : AllT w v) : AllQ w all' v := by
  obtain ⟨a, c, tb, h1, h2, h3⟩ := h
  exact ⟨a, c, tb, h1, fun i hi => by
    obtain ⟨b, cs, k1, k2, k3⟩ := h2 i hi
    exact ⟨b, cs, k1, trivial, k2, k3⟩, trivial, h3⟩
theorem IM.nil {D : List De} {u : Ty} (h : isIf u) (he : u.kind = 0 ∨ u.elems = []) : IM D u [] := by
  have hu := h.under (D := D)
  have hel : (norm u).elems = [] := by
    rcases h with h | ⟨h, h2⟩
    · rw [norm_named (by omega)]; exact he.resolve_left (by omega)
    · unfold norm; rw [if_pos h, if_neg (by omega), if_neg (by omega), if_pos h2]; rfl
  have := IM.yes (D := D) u [] (by rw [hu]; exact h.norm9) (by rw [hu, hel]; rfl) (fun i e l he => by rw [hu, hel] at he; simp at he) (fun i e l he => by rw [hu, hel] at he; simp at he)
  exact this
theorem Fresh.ifs {K : Cfg} {s : Gs} {w : World} {c : Nat} {u : Ty} (h : Fresh w c u) (hi : isIf u) : IfS K s w all' c u := by
  rcases h with h | ⟨⟨tb, v, h1, h2, h3⟩, h4⟩
  · exact .inr h
  · exact .inl ⟨tb, [], fun _ => 0, trivial, trivial, h1, ⟨[], IM.nil hi h4, .refl _⟩, fun i j m m' _ hm => by simp at hm, ⟨none, 0, v, h2, h3.q, fun i hi => absurd hi (Nat.not_lt_zero _)⟩, fun i m hm => by simp at hm⟩
theorem IIP.ifs {K : Cfg} {s : Gs} {w : World} {made : List Nat} (h : II K s w made) : ∀ c u, s.g c = some u → isIf u → IfS K s w all' c u := fun c u hc hu => by
  obtain ⟨_, _, k⟩ := (h c u hc).2 hu
  rcases k with k | ⟨_, k⟩
  · exact .inl k
  · exact k.ifs hu
theorem RT.gle {K : Cfg} {s s' : Gs} {w : World} (l : s.gle s') {v : Value} {t : Ty} (h : RT K s w s.sl v t) : RT K s' w s'.sl v t := (h.le l.le).mono fun d _ hd => l.sl d hd
theorem TSv.gle {K : Cfg} {s s' : Gs} {w : World} {p : Nat → Prop} (l : s.gle s') {b : Nat} {t : Ty} (h : TSv K s w p b t) : TSv K s' w p b t := h.le l.le l.sl
theorem TSv.sta {K : Cfg} {l : Nat} {s : Gs} {w w' : World} {p : Nat → Prop} (x : Sta K l w w') (hl : l ≤ 3) {b : Nat} {t : Ty} (h : TSv K s w p b t) : TSv K s w' p b t := h.tr (.sta x hl _) (.sta x hl _)
/-- types have been made -/
theorem IIP.made {K : Cfg} {s s' : Gs} {w w' : World} {P : Nat → Prop} {bb n : Nat} {made new : List Nat} (h : IIP K s w P made) (m : Made K s w bb made n s' new w') (hN : K.N ≤ w.heap.size) : IIP K s' w' P (made ++ new) := fun c u hc => by
  rcases m.gn c u hc with k | ⟨k1, k2, k3⟩
  · obtain ⟨q1, q2⟩ := h c u k
    refine ⟨q1, fun hu => ?_⟩
    obtain ⟨r1, r2, r3⟩ := q2 hu
    refine ⟨r1, (r2.sta m.sta (by omega)).gle m.gle, ?_⟩
    rcases r3 with r3 | ⟨r3, r4⟩
    · exact .inl ((r3.sta m.sta (by omega)).gle m.gle)
    · exact .inr ⟨List.mem_append_left _ r3, r4.sta0 m.sta⟩
  · refine ⟨by omega, fun hu => ?_⟩
    obtain ⟨r1, r2⟩ := k3 hu
    obtain ⟨u', e1, e2, e3, e4⟩ := m.bi.kn c (List.mem_append_right _ r1)
    rw [hc] at e1
    cases e1
    exact ⟨e3, e4, .inr ⟨List.mem_append_right _ r1, r2⟩⟩
theorem IIP.clo {K : Cfg} {s : Gs} {w : World} {P : Nat → Prop} {made : List Nat} (h : IIP K s w P made) (lo hi : Nat) : IIP K (s.clo lo hi) w P made := fun c u hc => by
  obtain ⟨q1, q2⟩ := h c u hc
  refine ⟨q1, fun hu => ?_⟩
  obtain ⟨r1, r2, r3⟩ := q2 hu
  exact ⟨r1, r2.gle (Gs.gle_seal ..), r3.imp (fun k => k.gle (Gs.gle_seal ..)) id⟩

/-- what is needed that type sets may be computed -/
theorem sc_of {K : Cfg} {s : Gs} {w : World} {bb : Nat} {made : List Nat} (hbi : BI K s w bb made) (hd : DclI K s w K.D.length) (he : ErrI K s w) (hi : II K s w made) (hp : Prp w) (hg : gP < K.N) (hD : ShapedD K.D) (hw : wtD K.D ≤ 16777216) : SC K s w true :=
  ⟨hp, hg, hbi.pkg, hbi.sll, by obtain ⟨b, _, _, _, _, h1, _⟩ := he; exact ⟨b, h1⟩, hD, hw, fun _ => ⟨hd, he⟩, fun c u hc hu => by
    obtain ⟨q1, q2⟩ := hi c u hc
    obtain ⟨r1, r2, _⟩ := q2 hu
    exact ⟨q1, r1, r2⟩⟩
theorem rk_of {K : Cfg} {s : Gs} {w : World} {f : Bool} (hsc : SC K s w f) {b : Nat} {t : Ty} (hgb : s.g b = some t) (hif : isIf t) : ∃ k, rk K.D t k := by
  obtain ⟨hNb, hwf, hrt⟩ := hsc.kn b t hgb hif
  obtain ⟨ma, c, mc', ea, en, ec, fb, me, sv, ev, hd⟩ := hrt.ifd hif (fun T v hv e => by
    obtain ⟨b', he⟩ := hsc.er
    rw [he] at hv
    cases hv
    exact absurd e (by decide)) (fun h9 => by
    obtain ⟨⟨d, v, _, hsh⟩, _⟩ := hwf
    exact ⟨hsh.shape.c0 (.inr h9), hsh.shape.c1 (.inr h9)⟩)
  obtain ⟨Ls, _, _, _, hIM⟩ := hd.emb hif hwf
  obtain ⟨k, hk⟩ := hIM.rank
  obtain ⟨j, _, hj⟩ := rk_exists hk
  exact ⟨j, hj⟩
def TsC (K : Cfg) (s : Gs) (w : World) (b : Nat) (t : Ty) (r : Value) (w' : World) : Prop := Cpl K w w' ∧ ∃ tb ms fb, r = pt tb ∧ TSo K s w' all' b tb t ms fb ∧ ∀ c u, s.g c = some u → isIf u → IfS K s w all' c u → IfS K s w' all' c u
theorem c_typeSet {K : Cfg} {s : Gs} {w : World} (hsc : SC K s w true) {b : Nat} {t : Ty} (hgb : s.g b = some t) (hif : isIf t) (hI : ∀ c u, s.g c = some u → isIf u → IfS K s w all' c u) :
    Calls Tryz.prog 113 #[pt b] w (Ret (TsC K s w b t)) := by
  obtain ⟨k, hk⟩ := rk_of hsc hgb hif
  have hb : ∃ ma mn mc' ea en ec ts, Has w b (.cells (ifc ma mn mc' ea en ec ts) tIF) := by
    rcases hI b t hgb hif with ⟨tb, ms, fb, h⟩ | h
    · obtain ⟨a1, a2, a3, a4, a5, a6, h⟩ := h.ib
      exact ⟨a1, a2, a3, a4, a5, a6, _, h⟩
    · obtain ⟨a1, a2, a3, a4, a5, a6, h⟩ := h
      exact ⟨a1, a2, a3, a4, a5, a6, _, h⟩
  obtain ⟨ma, mn, mc', ea, en, ec, ts, hb⟩ := hb
  refine W.enter (args := [pt b]) Tryz.func113 rfl Tryz.ntmps113 rfl rfl ?_
  refine zst ?_
  refine WU.stp rfl rfl rfl (stp_call rfl (c_cits K s true k b t hgb hif hk (.inl rfl) w all' 0 hsc (fun _ _ => trivial) (fun _ _ => trivial) fun c u j hc hu _ _ => hI c u hc hu)) ?_
  rintro _ w' ⟨h1, tb, ms, fb, rfl, h2, h3⟩
  refine zst ?_
  exact fin1 (.inl rfl) rfl rfl ⟨h1, tb, ms, fb, rfl, h2, h3⟩
theorem c_Complete {K : Cfg} {s : Gs} {w : World} (hsc : SC K s w true) {b : Nat} {t : Ty} (hgb : s.g b = some t) (hif : isIf t) (hI : ∀ c u, s.g c = some u → isIf u → IfS K s w all' c u) :
    Calls Tryz.prog 110 #[pt b] w (Ret fun _ w' => ∃ r, TsC K s w b t r w') := by
  have hb : ∃ ma mn mc' ea en ec ts, Has w b (.cells (ifc ma mn mc' ea en ec ts) tIF) := by
    rcases hI b t hgb hif with ⟨tb, ms, fb, h⟩ | h
    · obtain ⟨a1, a2, a3, a4, a5, a6, h⟩ := h.ib
      exact ⟨a1, a2, a3, a4, a5, a6, _, h⟩
    · obtain ⟨a1, a2, a3, a4, a5, a6, h⟩ := h
      exact ⟨a1, a2, a3, a4, a5, a6, _, h⟩
  obtain ⟨ma, mn, mc', ea, en, ec, ts, hb⟩ := hb
  refine W.enter (args := [pt b]) Tryz.func110 rfl Tryz.ntmps110 rfl rfl ?_
  refine zst ?_
  refine WU.stp rfl rfl rfl (stp_call rfl (c_typeSet hsc hgb hif hI)) ?_
  rintro r w' h
  refine zst ?_
  exact fin1 (.inl rfl) rfl rfl ⟨r, h⟩

theorem SC.ifs' {K : Cfg} {s : Gs} {w : World} {f : Bool} (_ : SC K s w f) : True := trivial
set_option maxHeartbeats 2000000 in
theorem c_complete {K : Cfg} {s : Gs} {w : World} {bb : Nat} {made : List Nat} (hbi : BI K s w bb made) (hsc : SC K s w true) (hi : II K s w made) (hl : made.length ≤ 1073741824) :
    Calls Tryz.prog 76 #[pt bb] w (Ret fun _ w' => Sta K 1 w w' ∧ BI K s w' bb [] ∧ II K s w' []) := by
  obtain ⟨na, nl, nc, vm, hbb, how, hnm⟩ := hbi.ex
  rw [map_getD] at how
  obtain ⟨a, c, rfl, hr⟩ := Own.row1 how
  refine W.enter (args := [pt bb]) Tryz.func76 rfl Tryz.ntmps76 rfl rfl ?_
  refine zst ?_
  refine W.loop (σ := Nat) (fun k => [(9, .int .i64 k), (8, .int .i64 made.length), (7, .slice a made.length c), (0, pt bb)])
    (fun k D' wk => D' = [] ∧ k ≤ made.length ∧ Cpl K w wk ∧ (∀ c u, s.g c = some u → isIf u → IfS K s wk all' c u) ∧ ∀ i, i < k → ∀ u, s.g (made.getD i 0) = some u → isIf u → TSv K s wk all' (made.getD i 0) u)
    (fun k => made.length - k) 0 ⟨rfl, Nat.zero_le _, .rfl' _ _, IIP.ifs hi, fun i h => by omega⟩ (by exact sub_of ⟨rfl, rfl, rfl, rfl, trivial⟩) ?_
  rintro k D' wk ⟨rfl, hk, hc, hI, hT⟩
  refine zst ?_
  by_cases hlt : k < made.length
  · rw [show decide ((k : Int) < (made.length : Int)) = true by simpa using hlt]
    obtain ⟨g, cs, rfl, _, _, q3, q4⟩ := hr k hlt
    have q3' := hc.cells (by decide) q3
    have hmem : made.getD k 0 ∈ made := by
      rw [List.getD_eq_getElem?_getD, List.getElem?_eq_getElem hlt]
      exact List.getElem_mem hlt
    obtain ⟨u, e1, e2, e3, e4⟩ := hbi.kn _ hmem
    refine zst ?_
    refine WU.yld rfl rfl rfl (yld_load_c rfl (by rw [Nat.mul_one, Nat.zero_add]; exact cell_of q3' q4)) ?_
    refine zst ?_
    refine WU.stp rfl rfl rfl (stp_call rfl (c_Complete (hsc.sta hc.sta (by omega)) e1 e2 hI)) ?_
    rintro _ w' ⟨r, hc', tb, ms, fb, rfl, ht, hp⟩
    refine zst ?_
    exact ⟨k + 1, by omega, ⟨rfl, by omega, hc.trans hc', fun c u h1 h2 => hp c u h1 h2 (hI c u h1 h2), fun i hi' u' h1 h2 => by
      by_cases hik : i = k
      · subst hik
        rw [e1] at h1
        cases h1
        exact ⟨tb, ms, fb, ht⟩
      · exact (hT i (by omega) u' h1 h2).sta hc'.sta (by omega)⟩, sub_of ⟨rfl, rfl, rfl, rfl, trivial⟩⟩
  · rw [show decide ((k : Int) < (made.length : Int)) = false by simpa using hlt]
    obtain rfl : k = made.length := by omega
    have hbbk := hc.cells (by decide) hbb
    refine zst ?_
    refine WU.stp0 rfl rfl (stp_store_cell rfl rfl rfl rfl) ?_
    rintro _ w' u'
    refine zst ?_
    have st : Sta K 1 wk w' := .of_upd hbbk u' hbi.N mok_made
    have st2 : Sta K 1 w w' := hc.sta.trans st
    refine fin0 (.inr rfl) rfl ⟨st2, ⟨hbi.N, hbi.nbN, Nat.lt_of_lt_of_le hbi.nbL st2.size, fun n hn => ?_, hbi.er, hbi.nm, fun b u hb => Nat.lt_of_lt_of_le (hbi.gl b u hb) st2.size, fun d hd => Nat.lt_of_lt_of_le (hbi.sll d hd) st2.size, fun b hb => (by cases hb), na, nl, nc, _, u'.has, by simpa using Own.nil w' K.N tPI 1, fun i x hx => ?_⟩, fun c u h1 => ?_⟩
    · obtain ⟨c, x, k1, k2⟩ := hbi.pkg n hn
      exact ⟨c, x, k1, Has.sta st2 k2⟩
    · obtain ⟨cs, k1, k2, k3, k4⟩ := hnm i x hx
      have k5 := hc.cells (by decide) k3
      exact ⟨cs, k1, k2, ⟨(u'.oth _ (Has.tne k5 hbbk (by decide))).trans k5.at_⟩, k4⟩
    · obtain ⟨r1, r2⟩ := hi c u h1
      refine ⟨r1, fun hu => ?_⟩
      obtain ⟨p1, p2, p3⟩ := r2 hu
      refine ⟨p1, p2.sta st2 (by omega), .inl ?_⟩
      rcases p3 with p3 | ⟨p3, _⟩
      · exact p3.sta st2 (by omega)
      · obtain ⟨i, hi'⟩ := List.getElem?_of_mem p3
        have hlt' := (List.getElem?_eq_some_iff.1 hi').1
        have hg : made.getD i 0 = c := by rw [List.getD_eq_getElem?_getD, hi']; rfl
        have := hT i hlt' u (by rw [hg]; exact h1) hu
        rw [hg] at this
        exact this.sta st (by omega)

/-- the builder, when all declarations are made -/
structure Blt (K : Cfg) (s : Gs) (w : World) (bb : Nat) : Prop where
  bi : BI K s w bb []
  dc : DclI K s w K.D.length
  er : ErrI K s w
  ii : II K s w []
  prp : Prp w
  gN : gP < K.N
  vd : ValidD K.D
  wd : wtD K.D ≤ 16777216
theorem DclI.nms {K : Cfg} {s : Gs} {w : World} (h : DclI K s w K.D.length) {n : Nat} {e : De} (he : K.D[n]? = some e) : ∃ u, s.nm n = some u := by
  have := h n e he
  rw [decide_eq_true (List.getElem?_eq_some_iff.1 he).1] at this
  cases this with
  | def1 b ob u ms y h1 h2 => exact ⟨_, h2⟩
  | al1 b ob v v1 y h1 h2 => exact ⟨_, h2⟩
theorem Blt.ctx {K : Cfg} {s : Gs} {w : World} {bb : Nat} (h : Blt K s w bb) : Ctx K.D K K.D.length s w bb [] := ⟨h.bi, fun _n _e he _ => h.dc.nms he, h.prp, h.gN, rfl, Nat.le_refl _⟩
theorem Blt.ext {K : Cfg} {s : Gs} {w w' : World} {bb : Nat} (x : Ext w w') (h : Blt K s w bb) : Blt K s w' bb :=
  ⟨h.bi.ext x, h.dc.sta (l := 0) (.of_ext x) (by omega), h.er.sta (l := 0) (.of_ext x) (by omega), fun c u hc => by
    obtain ⟨r1, r2⟩ := h.ii c u hc
    refine ⟨r1, fun hu => ?_⟩
    obtain ⟨p1, p2, p3⟩ := r2 hu
    refine ⟨p1, p2.ext x, ?_⟩
    exact .inl ((p3.resolve_right fun q => (by cases q.1)).sta (l := 0) (.of_ext x) (by omega)), h.prp.ext x, h.gN, h.vd, h.wd⟩
/-- the declarations -/
theorem c_of {K : Cfg} {s : Gs} {w : World} {bb : Nat} (h : Blt K s w bb) {p : Nat → Prop} {cs : List Value} {t : Ty} (ht : TyV w p cs t) (hp : ∀ b, p b → b < K.N ∧ b < w.heap.size) (hv : ∃ v, Shaped K.D K.D.length v t) (hlg : Legal K.D t) (hwt : wt t ≤ Big) :
    Calls Tryz.prog 44 #[pt bb, .agg cs.toArray] w (Ret fun r w' => ∃ s', s.gle s' ∧ Sta K 1 w w' ∧ Blt K s' w' bb ∧ RT K s' w' s'.sl r t ∧ IsI r) := by
  obtain ⟨a, cp, rfl, hts⟩ := ht.tys
  refine W.enter (args := [pt bb, .agg (tyl t.kind t.n t.count t.vr (.slice a t.elems.length cp) t.name t.tag t.emb).toArray]) Tryz.func44 rfl Tryz.ntmps44 rfl rfl ?_
  refine zst ?_
  refine WU.stp rfl rfl rfl (by first | exact stp_box rfl rfl | exact stp_box1 rfl rfl) ?_
  rintro _ w1 ⟨b1, rfl, n1⟩
  have ib1 := n1.has
  refine zst ?_
  have h1 := h.ext n1.ext
  have hask : Ask K.D K.D.length w1 K p (tyl t.kind t.n t.count t.vr (.slice a t.elems.length cp) t.name t.tag t.emb) t := ⟨(TyV.of_tys hts).ext n1.ext, fun b hb => ⟨(hp b hb).1, Nat.lt_of_lt_of_le (hp b hb).2 n1.ext.size⟩, hv, hlg⟩
  refine WU.stp rfl rfl rfl (stp_call rfl (c_typ' K.D K K.D.length t s w1 bb [] p _ h1.ctx hask (by simpa using hwt))) ?_
  rintro r w2 ⟨s', new, hm, hrt, hI⟩
  obtain ⟨T, rb, rfl⟩ := hI
  have hN1 : K.N ≤ w1.heap.size := by have := h1.bi.N; have := h1.bi.ex.choose_spec.choose_spec.choose_spec.choose_spec.1.lt; omega
  have hii := IIP.made h1.ii hm hN1
  have hd2 := (h1.dc.sta hm.sta (by omega)).gle hm.gle
  have he2 := (h1.er.sta hm.sta (by omega)).gle hm.gle
  have hp2 := h1.prp.sta hm.sta h.gN
  rw [List.nil_append] at hii
  have hbi := hm.bi
  rw [List.nil_append] at hbi
  have hln := hm.len
  have hsc := sc_of hbi hd2 he2 hii hp2 h.gN h.vd.sh h.wd
  replace hwt : wt t ≤ 268435456 := hwt
  refine zst ?_
  refine WU.stp rfl rfl rfl (stp_call rfl (c_complete hbi hsc hii (by omega))) ?_
  rintro _ w3 ⟨st3, hbi3, hii3⟩
  refine zst ?_
  have hs2 := hm.sta.size
  refine fin1 (.inl rfl) rfl rfl ⟨s'.clo w1.heap.size w2.heap.size, hm.gle.trans (Gs.gle_seal ..), ((Sta.of_ext n1.ext).trans (hm.sta.lev (by omega))).trans st3, ⟨hbi3.clo _ st3.size, (hd2.sta st3 (by omega)).gle (Gs.gle_seal ..), (he2.sta st3 (by omega)).gle (Gs.gle_seal ..), IIP.clo hii3 _ _, hp2.sta st3 h.gN, h.gN, h.vd, h.wd⟩, ?_, _, _, rfl⟩
  exact ((hrt.mono (q := (s'.clo w1.heap.size w2.heap.size).sl) fun d hd hpd => .inr ⟨hpd, hd⟩).le (Gs.gle_seal ..).le).sta st3 (by omega)
end Go.Proofs.YtelmnkfdpnkpoaaGreatDoor
namespace Go.Proofs.YtelmnkfdpnkpoaaGreatDoor
open Go Go.Kd
set_option maxRecDepth 100000

theorem MOk.tn {K : Cfg} {b : Nat} {pk v : Value} {nm : ByteArray} : MOk K 2 b tTN #[.int .i64 0, pk, .string nm, .nilIface] #[.int .i64 0, pk, .string nm, v] := ⟨rfl, fun i hi => by
  have h3 : i ≠ 3 := fun e => by
    subst e
    unfold mc at hi
    simp only [show ¬ tTN = tTY from by decide, show ¬ tTN = tIF from by decide, show ¬ tTN = tSG from by decide, show ¬ tTN = tNM from by decide, if_false, if_true] at hi
    simp [nilI] at hi
  match i, h3 with
  | 0, _ | 1, _ | 2, _ => rfl
  | i + 4, _ => rfl⟩
/-- only these two types' blocks turn -/
def NKept (w w' : World) : Prop := ∀ (d : Nat) (cs : Array Value) (t : TypeId), Has w d (.cells cs t (0, 0)) → t ≠ tNM → t ≠ tTN → Has w' d (.cells cs t (0, 0))
theorem c_newAlias (ob : Nat) (pk : Value) (nm : ByteArray) (T : Nat) (v : Value) (w : World) (h : TnV w ob pk nm .nilIface) :
    Calls Tryz.prog 90 #[.pointer none, pt ob, .iface T v] w (Ret fun r w' => ∃ b w1, r = pt b ∧ w.heap.size ≤ b ∧ Ext w w1 ∧ Upd w1 ob (.cells #[.int .i64 0, pk, .string nm, .iface tAL (pt b)] tTN) w' ∧ Has w' b (.cells #[pt ob, pt b, .iface T v, .nilIface] tAB)) := by
  have h' : Has w ob (.cells #[.int .i64 0, pk, .string nm, .nilIface] tTN) := h
  refine W.enter (args := [.pointer none, pt ob, .iface T v]) Tryz.func90 rfl Tryz.ntmps90 rfl rfl ?_
  refine zst ?_
  refine WU.stp rfl rfl rfl stp_alloc ?_
  rintro _ w1 ⟨b, rfl, n1⟩
  have ib1 : Has w1 b (.cells #[.pointer none, .pointer none, .nilIface, .nilIface] tAB) := n1.has
  have h1 := h'.ext' n1.ext
  have e1 := n1.num
  have hlt := h'.lt
  refine zst ?_
  refine WU.stp0 rfl rfl (stp_store_cell rfl rfl rfl rfl) ?_
  rintro _ w2 u2
  have ib2 : Has w2 b (.cells #[pt ob, .pointer none, .nilIface, .nilIface] tAB) := u2.has
  refine zst ?_
  refine WU.stp0 rfl rfl (stp_store_cell rfl rfl rfl rfl) ?_
  rintro _ w3 u3
  have ib3 : Has w3 b (.cells #[pt ob, pt b, .nilIface, .nilIface] tAB) := u3.has
  refine zst ?_
  refine WU.stp0 rfl rfl (stp_store_cell rfl rfl rfl rfl) ?_
  rintro _ w4 u4
  have ib4 : Has w4 b (.cells #[pt ob, pt b, .iface T v, .nilIface] tAB) := u4.has
  have x4 : Ext w w4 := (u4.ofNew (u3.ofNew (u2.ofNew n1))).ext
  have h4 : Has w4 ob (.cells #[.int .i64 0, pk, .string nm, .nilIface] tTN) := h'.ext' x4
  refine zst ?_
  refine WU.stp0 rfl rfl (stp_store_cell rfl rfl rfl rfl) ?_
  rintro _ w5 u5
  refine zst ?_
  exact fin1 (.inl rfl) rfl rfl ⟨b, w4, rfl, by omega, x4, u5, ⟨(u5.oth b (by omega)).trans ib4.at_⟩⟩

set_option maxHeartbeats 1000000 in
theorem c_unalias_new {K : Cfg} {s : Gs} {w : World} {i : Nat} {b : Nat} {ob og v0 : Value} {e0 : Ty} (hD : ShapedD K.D) (hd : DclI K s w i) (he : ErrI K s w) (hb : Has w b (.cells #[ob, og, v0, .nilIface] tAB)) (hr : RT K s w s.sl v0 e0) (hi : Rdy K i e0) :
    Calls Tryz.prog 135 #[pt b] w (Ret fun _ w' => ∃ T c y, Upd w b (.cells #[ob, og, v0, .iface T (pt c)] tAB) w' ∧ RT K s w s.sl (.iface T (pt c)) y ∧ isAl K.D y = false ∧ unaliasT K.D e0 = norm y ∧ Rdy K i y) := by
  refine W.enter (args := [pt b]) Tryz.func135 rfl Tryz.ntmps135 rfl rfl ?_
  refine zst ?_
  refine W.loop (σ := Nat × Nat × Value) (fun st => match st with
      | (0, _, v) => [(4, .pointer none), (3, v), (0, pt b)]
      | (_ + 1, x, _) => [(4, pt x), (0, pt b)])
    (fun st D' wk => D' = [] ∧ wk = w ∧ match st with
      | (0, _, v) => ∃ T c y, v = .iface T (pt c) ∧ RT K s w s.sl v y ∧ isAl K.D y = false ∧ unaliasT K.D e0 = norm y ∧ Rdy K i y
      | (m + 1, x, v) => ∃ a1 a2 a3 τ, Has w x (.cells #[a1, a2, v, a3] tAB) ∧ RT K s w s.sl v τ ∧ (isAl K.D τ = true → τ.n.toNat < m) ∧ unaliasT K.D τ = unaliasT K.D e0 ∧ Rdy K i τ)
    (fun st => st.1) (i + 1, b, v0) ⟨rfl, rfl, _, _, _, e0, hb, hr, fun ha => (hi (isAl_kind ha)).2.2, rfl, hi⟩ (by exact sub_of ⟨rfl, rfl, trivial⟩) ?_
  rintro ⟨m, x, v⟩ D' wk ⟨rfl, rfl, hst⟩
  cases m with
  | zero =>
    obtain ⟨T, c, y, rfl, h1, h2, h3, h4⟩ := hst
    refine zst ?_
    refine WU.stp0 rfl rfl (stp_store_cell rfl rfl rfl rfl) ?_
    rintro _ w2 u2
    refine zst ?_
    exact fin1 (.inl rfl) rfl rfl ⟨T, c, y, u2, h1, h2, h3, h4⟩
  | succ m =>
    obtain ⟨a1, a2, a3, τ, h1, h2, h3, h4, h5⟩ := hst
    cases ha : isAl K.D τ with
    | true =>
      have hk := isAl_kind ha
      obtain ⟨q0, q1, q2⟩ := h5 hk
      have hel := List.getElem?_eq_getElem q1
      have hal : (K.D[τ.n.toNat]).al = true := by rw [← isAl_n hk hel]; exact ha
      obtain ⟨b', ob', T, c, v1, y, rfl, k1, k2, k3, k4, k5, k6, k7⟩ := hd.al_ hel q2 hal (h2.nam hk)
      refine zst ?_
      refine ⟨(τ.n.toNat + 1, b', v1), by have := h3 ha; show τ.n.toNat + 1 < m + 1; omega, ⟨rfl, rfl, _, _, _, _, k2, k3, fun ha' => ?_, ?_, fun hk' => ?_⟩, sub_of ⟨rfl, rfl, trivial⟩⟩
      · have hs := (hD _ _ hel).shape
        have hk' := isAl_kind ha'
        have r1 := hs.nm hk' (.inl rfl)
        have r2 := hs.n0 (by rw [hk']; simp [limitN]; try omega)
        omega
      · rw [← h4, unalias_step hD hk hel hal]
      · have hs := (hD _ _ hel).shape
        have r1 := hs.nm hk' (.inl rfl)
        have r2 := hs.n0 (by rw [hk']; simp [limitN]; try omega)
        exact ⟨r2, by omega, by omega⟩
    | false =>
      obtain ⟨T, c, rfl, hT⟩ := h2.noAl hd he h5 ha
      have hT2 : Nat.beq T tAL = false := by
        rcases hT with h | rfl
        · exact h.ne.1
        · rfl
      refine zst ?_
      exact ⟨(0, x, .iface T (pt c)), by show 0 < m + 1; omega, ⟨rfl, rfl, T, c, τ, rfl, h2, ha, by rw [← h4, unalias_end ha], h5⟩, sub_of ⟨rfl, rfl, rfl, trivial⟩⟩
theorem c_cleanup (b : Nat) (w : World) (R : World → Prop) (h : Calls Tryz.prog 135 #[pt b] w (Ret fun _ w' => R w')) : Calls Tryz.prog 91 #[pt b] w (Ret fun _ w' => R w') := by
  refine W.enter (args := [pt b]) Tryz.func91 rfl Tryz.ntmps91 rfl rfl ?_
  refine zst ?_
  refine WU.stp rfl rfl rfl (stp_call rfl h) ?_
  rintro _ w' hR
  refine zst ?_
  exact fin0 (.inr rfl) rfl hR
/-- what is made stays, where neither named types nor the objects turn -/
theorem DclV.chg {K : Cfg} {l : Nat} {s : Gs} {w w' : World} (x : Sta K l w w') (hl : l ≤ 3) (hN : ∀ d cs, Has w d (.cells cs tNM) → Has w' d (.cells cs tNM)) {n : Nat} {e : De} {d : Bool} (h : DclV K s w n e d) : DclV K s w' n e d := by
  cases h with
  | def0 b ob h1 h2 h3 h4 h5 => exact .def0 b ob h1 h2 h3 (h4.sta x) (hN _ _ h5)
  | def1 b ob u ms y h1 h2 h3 h4 h5 h6 h7 h8 => exact (DclV.def1 b ob u ms y h1 h2 h3 h4 h5 h6 h7 h8).sta1 x hl
  | al0 h1 => exact .al0 h1
  | al1 b ob v v1 y h1 h2 h3 h4 h5 h6 h7 h8 h9 h10 h11 => exact (DclV.al1 b ob v v1 y h1 h2 h3 h4 h5 h6 h7 h8 h9 h10 h11).sta1 x hl
theorem DclI.chg {K : Cfg} {l : Nat} {s : Gs} {w w' : World} (x : Sta K l w w') (hl : l ≤ 3) (hN : ∀ d cs, Has w d (.cells cs tNM) → Has w' d (.cells cs tNM)) {i : Nat} (h : DclI K s w i) : DclI K s w' i := fun n e he => (h n e he).chg x hl hN
/-- an alias is made -/
theorem c_NewAlias {K : Cfg} {s : Gs} {w : World} {i : Nat} {ob : Nat} {pk : Value} {nm : ByteArray} {T c : Nat} {e0 : Ty} (hD : ShapedD K.D) (hd : DclI K s w i) (he : ErrI K s w) (h : TnV w ob pk nm .nilIface) (hN : K.N ≤ ob) (hr : RT K s w s.sl (.iface T (pt c)) e0) (hi : Rdy K i e0) (hsl : ∀ d, s.sl d → d < w.heap.size) :
    Calls Tryz.prog 68 #[pt ob, .iface T (pt c)] w (Ret fun r w' => ∃ b T' c' y, r = pt b ∧ w.heap.size ≤ b ∧ Has w' b (.cells #[pt ob, pt b, .iface T (pt c), .iface T' (pt c')] tAB) ∧ TnV w' ob pk nm (.iface tAL (pt b)) ∧ Sta K 2 w w' ∧
      (∀ d, d < w.heap.size → d ≠ ob → w'.heap[d]? = w.heap[d]?) ∧ RT K s w' s.sl (.iface T' (pt c')) y ∧ isAl K.D y = false ∧ unaliasT K.D e0 = norm y ∧ Rdy K i y) := by
  have h' : Has w ob (.cells #[.int .i64 0, pk, .string nm, .nilIface] tTN) := h
  have hlt := h'.lt
  refine W.enter (args := [pt ob, .iface T (pt c)]) Tryz.func68 rfl Tryz.ntmps68 rfl rfl ?_
  refine zst ?_
  refine WU.stp rfl rfl rfl (stp_call rfl (c_newAlias ob pk nm T (pt c) w h)) ?_
  rintro _ w2 ⟨b, w1, rfl, hge, x1, u2, hb2⟩
  have ho1 := h'.ext' x1
  have st2 : Sta K 2 w w2 := (Sta.of_ext x1).trans (.of_upd ho1 u2 hN MOk.tn)
  have hoth2 : ∀ d, d < w.heap.size → d ≠ ob → w2.heap[d]? = w.heap[d]? := fun d hd hne => (u2.oth d hne).trans (x1.below.block d hd)
  have hd2 : DclI K s w2 i := hd.chg st2 (by omega) fun d cs hh => ⟨(hoth2 d hh.lt (Has.tne hh h' (by decide))).trans hh.at_⟩
  have he2 := he.sta st2 (by omega)
  refine zst ?_
  refine WU.stp rfl rfl rfl (stp_call rfl (c_cleanup b w2 _ (c_unalias_new hD hd2 he2 hb2 (hr.sta st2 (by omega)) hi))) ?_
  rintro _ w3 ⟨T', c', y, u3, k1, k2, k3, k4⟩
  refine zst ?_
  have hs1 := x1.size
  have hs2 := u2.size
  have st3 : Sta K 2 w w3 := st2.upd_new u3 hge
  refine fin1 (.inl rfl) rfl rfl ⟨b, T', c', y, rfl, hge, u3.has, ⟨(u3.oth ob (by omega)).trans u2.has.at_⟩, st3, fun d hd hne => (u3.oth d (by omega)).trans (hoth2 d hd hne), ?_, k2, k3, k4⟩
  exact k1.same fun d hd => u3.oth d (by have := hsl d hd; omega)
end Go.Proofs.YtelmnkfdpnkpoaaGreatDoor
namespace Go.Proofs.YtelmnkfdpnkpoaaGreatDoor
open Go Go.Kd
set_option maxRecDepth 100000

/-! ### The list that is being built -/
def rr (w wk : World) (p : Nat → Prop) (v : Value) (b : Nat) : Prop := p b ∨ (w.heap.size ≤ b ∧ b < wk.heap.size ∧ v.ownBlock ≠ some b)
structure OutI (w wk : World) (p : Nat → Prop) (base : Nat) (v : Value) (l : List Mt) : Prop where
  out : ∃ ls, Own wk base 113 10 v ls ∧ ls.length = l.length ∧ ∀ (i : Nat) m cs, l[i]? = some m → ls[i]? = some cs → MtV wk (rr w wk p v) cs m
theorem OutI.nil (w wk : World) (p : Nat → Prop) (base : Nat) : OutI w wk p base (.slice none 0 0) [] := ⟨[], Own.nil .., rfl, fun i m cs h => by simp at h⟩
theorem OutI.ext {w wk wk' : World} {p : Nat → Prop} {base : Nat} {v : Value} {l : List Mt} (x : Ext wk wk') (h : OutI w wk p base v l) : OutI w wk' p base v l := by
  obtain ⟨ls, h1, h2, h3⟩ := h
  refine ⟨ls, h1.ext x, h2, fun i m cs hm hc => ((h3 i m cs hm hc).ext x).mono fun b hb => ?_⟩
  rcases hb with hb | ⟨g1, g2, g3⟩
  · exact .inl hb
  · exact .inr ⟨g1, by have := x.size; omega, g3⟩
theorem OutI.lt {w wk : World} {p : Nat → Prop} {base : Nat} {v : Value} {l : List Mt} (h : OutI w wk p base v l) : ∀ k, v.ownBlock = some k → base ≤ k ∧ k < wk.heap.size := by
  obtain ⟨ls, h1, _⟩ := h; exact h1.lt
/-- as a slice of methods -/
theorem OutI.mts {w wk : World} {p : Nat → Prop} {base : Nat} {v : Value} {l : List Mt} (hb : w.heap.size ≤ base) (h : OutI w wk p base v l) : MtsV wk (btw w wk p) v l := by
  have hlt := h.lt
  obtain ⟨ls, h1, h2, h3⟩ := h
  obtain ⟨a, cp, h4, h5, h6⟩ := h1.shape
  refine ⟨a, cp, fun i => ls.getD i [], by rw [h4, h2], by rw [← h2]; exact h6.mono fun b hb' => .inr (by have := hlt b hb'; omega), fun i m hm => ?_⟩
  have hi : i < ls.length := by rw [h2]; exact (List.getElem?_eq_some_iff.1 hm).1
  have hd : ls.getD i [] = ls[i] := by simp [List.getD, hi]
  show MtV wk _ (ls.getD i []) m
  rw [hd]
  refine (h3 i m _ hm (List.getElem?_eq_getElem hi)).mono fun b hb' => ?_
  rcases hb' with hb' | ⟨g1, g2, _⟩
  · exact .inl hb'
  · exact .inr ⟨g1, g2⟩
/-- one more -/
theorem OutI.push {ls : List (List Value)} {w wk w' : World} {p : Nat → Prop} (hp : ∀ b, p b → b < w.heap.size) {base : Nat} {v v' : Value} {l : List Mt} {m : Mt} {cs : List Value} (hw : w.heap.size ≤ base) (hbk : base ≤ wk.heap.size) (h1 : Own wk base 113 10 v ls) (h2 : ls.length = l.length) (h3 : ∀ (i : Nat) m cs, l[i]? = some m → ls[i]? = some cs → MtV wk (rr w wk p v) cs m)
    (hm : MtV wk (rr w wk p v) cs m) (ha : App wk w' v) (hn : Own w' base 113 10 v' (ls ++ [cs])) (hg : ∀ g, v'.ownBlock = some g → v.ownBlock = some g ∨ g = wk.heap.size) : OutI w w' p base v' (l ++ [m]) := by
  have hlt := h1.lt
  have hsm : ∀ b, rr w wk p v b → w'.heap[b]? = wk.heap[b]? := fun b hb => by
    rcases hb with hb | ⟨g1, g2, g3⟩
    · exact ha.block b (by have := hp b hb; omega) (fun e => by have := hlt b e.symm; have := hp b hb; omega)
    · exact ha.block b g2 (fun e => g3 e.symm)
  have hmn : ∀ b, rr w wk p v b → rr w w' p v' b := fun b hb => by
    rcases hb with hb | ⟨g1, g2, g3⟩
    · exact .inl hb
    · refine .inr ⟨g1, by have := ha.size; omega, fun e => ?_⟩
      rcases hg b e with h | h
      · exact g3 h
      · omega
  refine ⟨ls ++ [cs], hn, by simp [h2], fun i m' cs' hm' hc' => ?_⟩
  rw [List.getElem?_append] at hm' hc'
  by_cases hi : i < l.length
  · rw [if_pos hi] at hm'
    rw [if_pos (by omega)] at hc'
    exact ((h3 i m' cs' hm' hc').same hsm).mono hmn
  · rw [if_neg hi] at hm'
    rw [if_neg (by omega)] at hc'
    rw [List.getElem?_singleton] at hm' hc'
    split at hm'
    · rename_i h0
      rw [if_pos (by omega)] at hc'
      cases hm'; cases hc'
      exact (hm.same hsm).mono hmn
    · cases hm'

theorem merge_app (c : Int) : ∀ (k : Nat) (L L' : List (List Mt)) (out : List Mt), mergeM c k (L ++ L') out = mergeM c (k + L.length) L' (mergeM c k L out)
  | k, [], L', out => rfl
  | k, l :: L, L', out => by
    simp only [List.cons_append, mergeM, List.length_cons]
    rw [merge_app c (k + 1) L L']
    congr 1
    omega
theorem merge_snoc (c : Int) {L : List (List Mt)} {i : Nat} {l : List Mt} (hl : L[i]? = some l) : mergeM c 0 (L.take (i + 1)) [] = if (i : Int) < c then mergeM c 0 (L.take i) [] ++ l else l.foldl addM (mergeM c 0 (L.take i) []) := by
  have hi : i < L.length := (List.getElem?_eq_some_iff.1 hl).1
  rw [List.take_add_one, hl]
  simp only [Option.toList]
  rw [merge_app]
  have : (L.take i).length = i := by simp; omega
  rw [this]
  simp [mergeM]
theorem fold_snoc {ms : List Mt} {j : Nat} {m : Mt} (hm : ms[j]? = some m) (out : List Mt) : (ms.take (j + 1)).foldl addM out = addM ((ms.take j).foldl addM out) m := by
  rw [List.take_add_one, hm]
  simp
theorem mono_len (c : Int) : ∀ (k : Nat) (L : List (List Mt)) (out : List Mt), out.length ≤ (mergeM c k L out).length
  | _, [], out => Nat.le_refl _
  | k, l :: L, out => by
    have hf : ∀ (l out : List Mt), out.length ≤ (l.foldl addM out).length := by
      intro l
      induction l with
      | nil => intro out; exact Nat.le_refl _
      | cons m l ih =>
        intro out
        refine Nat.le_trans ?_ (ih _)
        unfold addM; split
        · exact Nat.le_refl _
        · simp
    refine Nat.le_trans ?_ (mono_len c (k + 1) L _)
    split
    · simp
    · exact hf l out
theorem fold_len : ∀ (l out : List Mt), out.length ≤ (l.foldl addM out).length
  | [], out => Nat.le_refl _
  | m :: l, out => by
    refine Nat.le_trans ?_ (fold_len l _)
    unfold addM; split
    · exact Nat.le_refl _
    · simp
/-- no list on the way is longer than the last -/
theorem part_len (c : Int) {L : List (List Mt)} {i : Nat} : (mergeM c 0 (L.take i) []).length ≤ (mergeM c 0 L []).length := by
  have h := merge_app c 0 (L.take i) (L.drop i) []
  rw [List.take_append_drop] at h
  rw [h]
  exact mono_len ..
theorem part_len2 {L : List Mt} {i : Nat} {out : List Mt} : ((L.take i).foldl addM out).length ≤ (L.foldl addM out).length := by
  have h := List.foldl_append (f := addM) (b := out) (l := L.take i) (l' := L.drop i)
  rw [List.take_append_drop] at h
  rw [h]
  exact fold_len ..
theorem addM_find {out : List Mt} {m : Mt} : addM out m = if (findM out m.name.toList m.pkg).isSome then out else out ++ [m] := rfl
theorem mtl_one (m : Mt) (a : Option Addr) (c : Nat) : ∀ u ∈ mtl m a c, u.oneCell' = true := by
  intro u hu
  simp only [List.mem_cons, List.not_mem_nil, or_false] at hu
  rcases hu with rfl | rfl | rfl | rfl | rfl | rfl | rfl | rfl | rfl | rfl <;> rfl

theorem Stp.mono {P : Program} {e : Env} {o : Oper} {w : World} {R R' : Value → World → Prop} (h : Stp P e o w R) (hr : ∀ v w', R v w' → R' v w') : Stp P e o w R' := ⟨fun ρ hρ => by
  have := h.out ρ hρ
  split at this
  · exact hr _ _ this
  · exact hr _ _ this
  · exact this.mono fun x w'' ⟨v, h1, h2⟩ => ⟨v, h1, hr v w'' h2⟩
  · exact this⟩

theorem stp_push {e : Env} {d : Option Tmp} {ty : TypeId} {pos : String} {aft : Array Edge} {g : Option (Nat × Bool)} {x y : Operand} {w wk : World} {p : Nat → Prop} (hp : ∀ b, p b → b < w.heap.size) {base : Nat} {v : Value} {l : List Mt} {m : Mt} {a : Option Addr} {c b c' : Nat}
    (hx : ev e x = some v) (hy : ev e y = some (.slice (some ⟨b, 0, none⟩) 1 c')) (hw : w.heap.size ≤ base) (hbk : base ≤ wk.heap.size) (h : OutI w wk p base v l) (hc : Cells wk b 0 (mtl m a c)) (hm : TysV wk (rr w wk p v) a c m.fn.elems) (hn : l.length ≤ 1073741824) :
    Stp Tryz.prog e ⟨d, .call ⟨.builtin .append, #[x, y], #[65, 65]⟩, ty, pos, aft, g⟩ wk (fun v' w' => OutI w w' p base v' (l ++ [m]) ∧ App wk w' v ∧ (∀ w0, Ext w0 wk → w0.heap.size ≤ base → Ext w0 w') ∧ (∀ g, v'.ownBlock = some g → v.ownBlock = some g ∨ g = wk.heap.size)) := by
  obtain ⟨ls, h1, h2, h3⟩ := h
  refine Stp.mono (stp_append1 (sz := 10) hx hy h1 hc rfl rfl (by decide) (mtl_one m a c) (by omega) hbk) fun v' w' ⟨k1, k2, k3⟩ => ⟨OutI.push hp hw hbk h1 h2 h3 ⟨a, c, rfl, hm⟩ k2 k1 k3, k2, fun w0 x hb => k2.ext h1 x hb, k3⟩

set_option maxHeartbeats 4000000 in
theorem c_InterfaceMethods {D : List De} (hD : OkD D) (a : Option Addr) (cp : Nat) {t : Ty} {ms : List Mt} (hI : IM D t ms) : Good D t → ∀ (a1 : Option Addr) (c1 : Nat) (w : World) (p : Nat → Prop), (∀ b, p b → b < w.heap.size) → DsV w p (.slice a D.length cp) D → TysV w p a1 c1 t.elems →
    Calls Tryz.prog 51 #[.slice a D.length cp, .agg (tyc t a1 c1).toArray] w (Ret fun r w' => MtsV w' (btw w w' p) r ms ∧ Ext w w') := by
  induction hI with
  | no t hk =>
    intro hG a1 c1 w p hp hd ht
    refine W.enter (args := [.slice a D.length cp, .agg (tyc t a1 c1).toArray]) Tryz.func51 rfl Tryz.ntmps51 rfl rfl ?_
    refine zst ?_
    refine WU.stp rfl rfl rfl (by first | exact stp_box rfl rfl | exact stp_box1 rfl rfl) ?_
    rintro _ w1 ⟨b1, rfl, n1⟩
    refine zst ?_
    have e1 := n1.num
    have s1 := n1.size
    refine WU.stp rfl rfl rfl (stp_call rfl (c_Underlying hD hG a cp a1 c1 w1 (fun b hb => by have := hp b hb; omega) (hd.ext n1.ext) (ht.ext n1.ext))) ?_
    rintro _ w2 ⟨a2, c2, rfl, ht2, x2⟩
    generalize underT D t = u at hk ht2
    have h1 : Has w2 b1 _ := n1.has.ext' x2
    refine WU.stp0 rfl rfl (stp_store_whole rfl rfl rfl rfl) ?_
    rintro _ w3 u3
    refine zst ?_
    rw [show (u.kind != 9) = true by simpa using hk]
    refine zst ?_
    exact fin1 (.inl rfl) rfl rfl ⟨⟨none, 0, fun _ => [], rfl, fun i h => by simp at h, fun i m h => by simp at h⟩, u3.ext (n1.ext.trans x2) (by omega)⟩
  | yes t L hk hL h1 h2 ih =>
    intro hG a1 c1 w p hp hd ht
    obtain ⟨gi, gv, hgi, hgs⟩ := hG.sh
    have hlen := IM_len hD.sh (IM.yes t L hk hL h1 h2) hgi hgs
    have hwt := hG.wt
    have hwD := hD.wt
    have hGu := hG.under hD
    have hulen := wt_len (underT D t)
    have hwu := hGu.wt
    refine W.enter (args := [.slice a D.length cp, .agg (tyc t a1 c1).toArray]) Tryz.func51 rfl Tryz.ntmps51 rfl rfl ?_
    refine zst ?_
    refine WU.stp rfl rfl rfl (by first | exact stp_box rfl rfl | exact stp_box1 rfl rfl) ?_
    rintro _ w1 ⟨b1, rfl, n1⟩
    refine zst ?_
    have e1 := n1.num
    have s1 := n1.size
    refine WU.stp rfl rfl rfl (stp_call rfl (c_Underlying hD hG a cp a1 c1 w1 (fun b hb => by have := hp b hb; omega) (hd.ext n1.ext) (ht.ext n1.ext))) ?_
    rintro _ w2 ⟨a2, c2, rfl, ht2, x2⟩
    generalize underT D t = u at *
    have hb1 : Has w2 b1 _ := n1.has.ext' x2
    have s2 := x2.size
    refine WU.stp0 rfl rfl (stp_store_whole rfl rfl rfl rfl) ?_
    rintro _ w3 u3
    have s3 := u3.size
    have x03 : Ext w w3 := u3.ext (n1.ext.trans x2) (by omega)
    have ht3 : TysV w3 (btw w1 w2 p) a2 c2 u.elems := ht2.upd u3 (fun h => by
      rcases h with h | h
      · have := hp _ h; omega
      · omega)
    have hd3 : DsV w3 (btw w1 w2 p) (.slice a D.length cp) D := (hd.ext x03).mono fun b hb => .inl hb
    have hb3 : Has w3 b1 _ := u3.has
    clear u3 hb1 ht2
    refine zst ?_
    rw [show (u.kind != 9) = false by simpa using hk]
    refine zst ?_
    have hpp : ∀ b, btw w1 w2 p b → b < w3.heap.size := fun b hb => by
      rcases hb with hb | hb
      · have := hp b hb; omega
      · omega
    refine W.loop (σ := Nat × Value) (fun (i, v) => [(21, .int .i64 i), (20, .int .i64 u.elems.length), (19, .slice a2 u.elems.length c2), (5, v), (3, .pointer (some ⟨b1, 0, none⟩)), (0, .slice a D.length cp)])
      (fun (i, v) D' wk => D' = [] ∧ i ≤ u.elems.length ∧ Ext w3 wk ∧ OutI w3 wk (btw w1 w2 p) w3.heap.size v (mergeM u.count 0 (L.take i) []))
      (fun (i, _) => u.elems.length - i) (0, .slice none 0 0) ⟨rfl, Nat.zero_le _, Ext.rfl' _, OutI.nil ..⟩ (by exact sub_of ⟨rfl, rfl, rfl, rfl, rfl, rfl, trivial⟩) ?_
    rintro ⟨i, v⟩ D' wk ⟨rfl, hi, xk, ho⟩
    have hsz := xk.size
    have hbk : Has wk b1 _ := hb3.ext' xk
    refine zst ?_
    have hfl : ∀ i, (mergeM u.count 0 (L.take i) []).length ≤ 1073741824 := fun i => by have := part_len u.count (L := L) (i := i); omega
    by_cases hlt : i < u.elems.length
    · rw [show decide ((i : Int) < (u.elems.length : Int)) = true by simpa using hlt]
      have he := List.getElem?_eq_getElem hlt
      have hlL : i < L.length := by omega
      have hl := List.getElem?_eq_getElem hlL
      generalize u.elems[i] = e at he
      generalize L[i] = l at hl
      have hsn := merge_snoc u.count hl
      have hfl0 := hfl i
      have hfl1 := hfl (i + 1)
      obtain ⟨b, o, a3, c3, rfl, hpb, hc, hte⟩ := ht3.next he
      have hc' : Cells wk b (o + i * 8) (tyc e a3 c3) := hc.ext xk
      refine zst ?_
      refine WU.yld rfl rfl rfl (yld_load_cells rfl hc') ?_
      refine WU.stp rfl rfl rfl stp_alloc ?_
      rintro _ w4 ⟨b4, rfl, n4⟩
      refine zst ?_
      refine WU.stp0 rfl rfl (stp_store_whole rfl rfl rfl rfl) ?_
      rintro _ w5 u5
      have e4 := n4.num
      have s4 := n4.size
      have s5 := u5.size
      have x45 : Ext wk w5 := (u5.ofNew n4).ext
      have hb5 : Has w5 b1 _ := hbk.ext' x45
      have hi4 : Has w5 b4 _ := u5.has
      have ho5 := ho.ext x45
      clear u5 n4
      refine zst ?_
      cases hct : decide ((i : Int) < u.count)
      · have hnc : ¬ (i : Int) < u.count := by simpa using hct
        rw [if_neg hnc] at hsn
        rw [hsn] at hfl1
        refine zst ?_
        have hll := IM_len hD.sh (h2 i e l he hl hnc) (hGu.el he).sh.choose_spec.choose_spec.1 (hGu.el he).sh.choose_spec.choose_spec.2
        have hwe := (hGu.el he).wt
        refine WU.stp rfl rfl rfl (stp_call rfl (ih i e l he hl hnc (hGu.el he) a3 c3 w5 (btw w1 w2 p) (fun b hb => by have := hpp b hb; omega) (hd3.ext (xk.trans x45)) (hte.ext (xk.trans x45)))) ?_
        rintro v6 w6 ⟨hm6, x6⟩
        obtain ⟨a6, c6, rfl⟩ := hm6.shape
        refine zst ?_
        have ho6 := ho5.ext x6
        have s6 := x6.size
        have hfin : (l.foldl addM (mergeM u.count 0 (L.take i) [])).length ≤ 1073741824 := hfl1
        have hnb : ∀ k, v.ownBlock = some k → ¬ btw w5 w6 (btw w1 w2 p) k := fun k hk hb => by
          have := ho.lt k hk
          rcases hb with hb | hb
          · have := hpp k hb; omega
          · omega
        refine W.loop (σ := Nat × Value) (fun (j, v) => [(43, .int .i64 j), (42, .int .i64 l.length), (41, .slice a6 l.length c6), (21, .int .i64 i), (20, .int .i64 u.elems.length), (19, .slice (some ⟨b, o, none⟩) u.elems.length c2), (5, v), (3, .pointer (some ⟨b1, 0, none⟩)), (0, .slice a D.length cp)])
          (fun (j, v) D' wk => D' = [] ∧ j ≤ l.length ∧ Ext w3 wk ∧ w6.heap.size ≤ wk.heap.size ∧ MtsV wk (btw w5 w6 (btw w1 w2 p)) (.slice a6 l.length c6) l ∧ OutI w3 wk (btw w1 w2 p) w3.heap.size v ((l.take j).foldl addM (mergeM u.count 0 (L.take i) [])) ∧
            ∀ k, v.ownBlock = some k → ¬ btw w5 w6 (btw w1 w2 p) k)
          (fun (j, _) => l.length - j) (0, v) ⟨rfl, Nat.zero_le _, xk.trans (x45.trans x6), Nat.le_refl _, hm6, ho6, hnb⟩ (by exact sub_of ⟨rfl, rfl, rfl, rfl, rfl, rfl, rfl, rfl, rfl, trivial⟩) ?_
        clear hm6 ho6 hnb ho5 ho hb5 hi4 hbk hc' hc
        rintro ⟨j, v⟩ D' wr ⟨rfl, hj, xr, sr, hmr, hor, hnr⟩
        refine zst ?_
        by_cases hjt : j < l.length
        · rw [show decide ((j : Int) < (l.length : Int)) = true by simpa using hjt]
          have hm := List.getElem?_eq_getElem hjt
          generalize l[j] = m at hm
          have hfs := fold_snoc hm (mergeM u.count 0 (L.take i) [])
          have hpl := part_len2 (L := l) (i := j) (out := mergeM u.count 0 (L.take i) [])
          generalize (l.take j).foldl addM (mergeM u.count 0 (L.take i) []) = acc at hfs hpl hor
          obtain ⟨b7, o7, a7, c7, rfl, hq7, hc7, ht7⟩ := hmr.next hm
          refine zst ?_
          refine WU.yld rfl rfl rfl (yld_load_cells rfl hc7) ?_
          refine WU.stp rfl rfl rfl stp_alloc ?_
          rintro _ w7 ⟨b8, rfl, n7⟩
          refine WU.stp0 rfl rfl (stp_store_whole rfl rfl rfl rfl) ?_
          rintro _ w8 u8
          have e7 := n7.num
          have x78 : Ext wr w8 := (u8.ofNew n7).ext
          have hi8 : Has w8 b8 _ := u8.has
          have hs8 := x78.size
          have hor8 := hor.ext x78
          clear u8 n7
          refine zst ?_
          refine WU.stp rfl rfl rfl (stp_call rfl (c_find m.name m.pkg w8 (hor8.mts (Nat.le_refl _)) (by omega))) ?_
          rintro r9 w9 ⟨hf9, x9⟩
          have hor9 := hor8.ext x9
          have hs9 := x9.size
          have hi9 : Has w9 b8 _ := hi8.ext' x9
          rw [addM_find] at hfs
          cases hfd : findM acc m.name.toList m.pkg with
          | none =>
            rw [hfd] at hf9 hfs
            obtain rfl : r9 = .tuple #[.agg mtz.toArray, .bool false] := hf9
            refine zst ?_
            refine WU.stp rfl rfl rfl stp_alloc ?_
            rintro _ w10 ⟨b10, rfl, n10⟩
            refine WU.stp0 rfl rfl (stp_store_whole rfl rfl rfl rfl) ?_
            rintro _ w11 u11
            have x11 : Ext w9 w11 := (u11.ofNew n10).ext
            have hor11 := hor9.ext x11
            have hs11 := x11.size
            have hi11 : Has w11 b8 _ := hi9.ext' x11
            clear u11 n10
            refine zst ?_
            refine WU.stp rfl rfl rfl (stp_buildSlice rfl rfl rfl rfl rfl) ?_
            rintro _ w12 ⟨b12, rfl, n12⟩
            have e12 := n12.num
            have hor12 := hor11.ext n12.ext
            have s12 := n12.size
            have x12 : Ext wr w12 := x78.trans (x9.trans (x11.trans n12.ext))
            refine WU.stp rfl rfl rfl (stp_push hpp rfl rfl (Nat.le_refl _) (by omega) hor12 (m := m) (Cells.has n12.has) ((ht7.ext x12).mono fun b hb => ?_) (by omega)) ?_
            · rcases hb with hb | hb
              · exact .inl hb
              · exact .inr ⟨by omega, by omega, fun e => hnr b e (.inr hb)⟩
            rintro v13 w13 ⟨ho13, ha13, hx13, hg13⟩
            refine zst ?_
            have hs13 := ha13.size
            refine ⟨(j + 1, v13), by show l.length - (j + 1) < l.length - j; omega, ⟨rfl, by omega, hx13 w3 (xr.trans x12) (Nat.le_refl _), by omega, (hmr.ext x12).same fun b hb => ha13.block b ?_ fun e => hnr b e.symm hb, by rw [hfs]; exact ho13, fun k hk hb => ?_⟩, sub_of ⟨rfl, rfl, rfl, rfl, rfl, rfl, rfl, rfl, rfl, trivial⟩⟩
            · rcases hb with hb | hb
              · have := hpp _ hb; omega
              · omega
            · rcases hg13 k hk with h | h
              · exact hnr k h hb
              · rcases hb with hb | hb
                · have := hpp _ hb; omega
                · omega
          | some m' =>
            rw [hfd] at hf9 hfs
            obtain ⟨a9, c9, rfl, _⟩ := hf9
            refine zst ?_
            refine WU.stp rfl rfl rfl stp_alloc ?_
            rintro _ w10 ⟨b10, rfl, n10⟩
            refine WU.stp0 rfl rfl (stp_store_whole rfl rfl rfl rfl) ?_
            rintro _ w11 u11
            have x11 : Ext w9 w11 := (u11.ofNew n10).ext
            have hor11 := hor9.ext x11
            have hs11 := x11.size
            clear u11 n10
            refine zst ?_
            have x12 : Ext wr w11 := x78.trans (x9.trans x11)
            exact ⟨(j + 1, v), by show l.length - (j + 1) < l.length - j; omega, ⟨rfl, by omega, xr.trans x12, by omega, hmr.ext x12, by rw [hfs]; exact hor11, hnr⟩, sub_of ⟨rfl, rfl, rfl, rfl, rfl, rfl, rfl, rfl, rfl, trivial⟩⟩
        · rw [show decide ((j : Int) < (l.length : Int)) = false by simpa using hjt]
          have hlj : l.take j = l := List.take_of_length_le (by omega)
          rw [hlj] at hor
          refine zst ?_
          exact ⟨(i + 1, v), by show u.elems.length - (i + 1) < u.elems.length - i; omega, ⟨rfl, by omega, xr, by rw [hsn]; exact hor⟩, sub_of ⟨rfl, rfl, rfl, rfl, rfl, rfl, trivial⟩⟩
      · have hyc : (i : Int) < u.count := by simpa using hct
        rw [if_pos hyc] at hsn
        have h1' := h1 i e l he hl hyc
        subst h1'
        refine zst ?_
        refine WU.stp rfl rfl rfl (stp_buildSlice rfl rfl rfl rfl rfl) ?_
        rintro _ w6 ⟨b6, rfl, n6⟩
        have e6 := n6.num
        have s6 := n6.size
        refine WU.stp rfl rfl rfl (stp_push hpp rfl rfl (Nat.le_refl _) (by omega) (ho5.ext n6.ext) (m := ⟨e.name, u.n, e⟩) (Cells.has n6.has) ((hte.ext (xk.trans (x45.trans n6.ext))).mono fun b hb => .inl hb) hfl0) ?_
        rintro v7 w7 ⟨ho7, ha7, hx7, hg7⟩
        refine zst ?_
        refine ⟨(i + 1, v7), by show u.elems.length - (i + 1) < u.elems.length - i; omega, ⟨rfl, by omega, hx7 w3 (xk.trans (x45.trans n6.ext)) (Nat.le_refl _), by rw [hsn]; exact ho7⟩, sub_of ⟨rfl, rfl, rfl, rfl, rfl, rfl, trivial⟩⟩
    · rw [show decide ((i : Int) < (u.elems.length : Int)) = false by simpa using hlt]
      refine zst ?_
      have hil : L.take i = L := List.take_of_length_le (by omega)
      rw [hil] at ho
      refine fin1 (.inl rfl) rfl rfl ⟨(ho.mts (Nat.le_refl _)).mono fun b hb => ?_, x03.trans xk⟩
      have := x2.size
      rcases hb with (hb | hb) | hb
      · exact .inl hb
      · exact .inr (by omega)
      · exact .inr (by omega)
end Go.Proofs.YtelmnkfdpnkpoaaGreatDoor
namespace Go.Proofs.YtelmnkfdpnkpoaaGreatDoor
open Go Go.Kd
set_option maxRecDepth 100000

/-- what a call of Identical comes to -/
def IdC (D : List De) (a : Option Addr) (cp : Nat) (tags : Bool) (x : Ty) (xx : X) : Prop := ∀ (y : Ty) (yy : X), Exp D y yy → Good D y → ∀ (a1 : Option Addr) (c1 : Nat) (a2 : Option Addr) (c2 : Nat) (w : World) (p : Nat → Prop), (∀ b, p b → b < w.heap.size) →
    DsV w p (.slice a D.length cp) D → TysV w p a1 c1 x.elems → TysV w p a2 c2 y.elems →
    Calls Tryz.prog 22 #[.slice a D.length cp, .agg (tyc x a1 c1).toArray, .agg (tyc y a2 c2).toArray, .bool tags] w (Ret fun r w' => r = .bool (idX tags xx yy) ∧ Ext w w')

theorem c_identicalElems {D : List De} (a : Option Addr) (cp : Nat) (tags : Bool) {x y : Ty} {es es' : List X} (hx : es.length = x.elems.length) (hy : es'.length = y.elems.length) (hxe : ∀ (i : Nat) e z, x.elems[i]? = some e → es[i]? = some z → IdC D a cp tags e z)
    (hye : ∀ (i : Nat) e z, y.elems[i]? = some e → es'[i]? = some z → Exp D e z ∧ Good D e) (a1 : Option Addr) (c1 : Nat) (a2 : Option Addr) (c2 : Nat) (w : World) (p : Nat → Prop) (hp : ∀ b, p b → b < w.heap.size)
    (hd : DsV w p (.slice a D.length cp) D) (ht1 : TysV w p a1 c1 x.elems) (ht2 : TysV w p a2 c2 y.elems) (hln : x.elems.length ≤ 16777216) :
    Calls Tryz.prog 48 #[.slice a D.length cp, .agg (tyc x a1 c1).toArray, .agg (tyc y a2 c2).toArray, .bool tags] w (Ret fun r w' => r = .bool (idL tags es es') ∧ Ext w w') := by
  refine W.enter (args := [.slice a D.length cp, .agg (tyc x a1 c1).toArray, .agg (tyc y a2 c2).toArray, .bool tags]) Tryz.func48 rfl Tryz.ntmps48 rfl rfl ?_
  refine zst ?_
  refine WU.stp rfl rfl rfl (by first | exact stp_box rfl rfl | exact stp_box1 rfl rfl) ?_
  rintro _ w1 ⟨b1, rfl, n1⟩
  refine WU.stp rfl rfl rfl (by first | exact stp_box rfl rfl | exact stp_box1 rfl rfl) ?_
  rintro _ w2 ⟨b2, rfl, n2⟩
  have e1 := n1.num
  have e2 := n2.num
  have s1 := n1.size
  have x2 : Ext w w2 := n1.ext.trans n2.ext
  have i1 : Has w2 b1 _ := n1.has.ext' n2.ext
  have i2 : Has w2 b2 _ := n2.has
  clear n1 n2
  refine zst ?_
  cases hne : ((x.elems.length : Int) != (y.elems.length : Int))
  · have hll : x.elems.length = y.elems.length := by simp at hne; omega
    refine zst ?_
    refine W.loop (σ := Nat) (fun k => [(21, .int .i64 k), (20, .int .i64 x.elems.length), (19, .slice a1 x.elems.length c1), (8, .bool false), (6, .pointer (some ⟨b2, 0, none⟩)), (5, .pointer (some ⟨b1, 0, none⟩)), (3, .bool tags), (0, .slice a D.length cp)])
      (fun k D' wk => D' = [] ∧ k ≤ x.elems.length ∧ Ext w2 wk ∧ ∀ (j : Nat) z z', j < k → es[j]? = some z → es'[j]? = some z' → idX tags z z' = true)
      (fun k => x.elems.length - k) 0 ⟨rfl, Nat.zero_le _, Ext.rfl' _, fun j z z' h => by omega⟩ (by exact sub_of ⟨rfl, rfl, rfl, rfl, rfl, rfl, rfl, rfl, trivial⟩) ?_
    rintro k D' wr ⟨rfl, hk, xr, hall⟩
    have hsz := xr.size
    have hsz2 := x2.size
    have i1' : Has wr b1 _ := i1.ext' xr
    have i2' : Has wr b2 _ := i2.ext' xr
    refine zst ?_
    by_cases hlt : k < x.elems.length
    · rw [show decide ((k : Int) < (x.elems.length : Int)) = true by simpa using hlt]
      have he := List.getElem?_eq_getElem hlt
      have hlt2 : k < y.elems.length := by omega
      have he2 := List.getElem?_eq_getElem hlt2
      have hz := List.getElem?_eq_getElem (show k < es.length by omega)
      have hz2 := List.getElem?_eq_getElem (show k < es'.length by omega)
      generalize x.elems[k] = e at he
      generalize y.elems[k] = e2 at he2
      generalize es[k] = z at hz
      generalize es'[k] = z2 at hz2
      obtain ⟨b, o, a3, c3, rfl, hpb, hc, hte⟩ := ht1.next he
      obtain ⟨b', o', a4, c4, rfl, hpb', hc2, hte2⟩ := ht2.next he2
      have hc' : Cells wr b (o + k * 8) (tyc e a3 c3) := hc.ext (x2.trans xr)
      refine zst ?_
      refine WU.yld rfl rfl rfl (yld_load_cells rfl hc') ?_
      refine WU.stp rfl rfl rfl stp_alloc ?_
      rintro _ w3 ⟨b3, rfl, n3⟩
      refine zst ?_
      refine WU.stp0 rfl rfl (stp_store_whole rfl rfl rfl rfl) ?_
      rintro _ w4 u4
      have x4 : Ext wr w4 := (u4.ofNew n3).ext
      have i4 : Has w4 b3 _ := u4.has
      have e3 := n3.num
      have i1'' : Has w4 b1 _ := i1'.ext' x4
      have i2'' : Has w4 b2 _ := i2'.ext' x4
      clear u4 n3
      refine zst ?_
      refine W.regD [(0, .q), (1, .q), (2, .q), (3, .q), (4, .q), (5, .q), (6, .q), (7, .q), (8, .l), (9, .q)] (by kernel_rfl) (by kernel_rfl) rfl ?_
      intro w5 x5 _
      refine zsd ?_
      have hc2' : Cells w5 b' (o' + k * 8) (tyc e2 a4 c4) := hc2.ext (x2.trans (xr.trans (x4.trans x5)))
      refine WD.yld rfl rfl rfl rfl (yld_load_cells rfl hc2') ?_
      refine zsd ?_
      have xx := x2.trans (xr.trans (x4.trans x5))
      have hs5 := x5.size
      have hs4 := x4.size
      refine WD.stp rfl rfl rfl rfl (stp_call rfl (hxe k e z he hz e2 z2 (hye k e2 z2 he2 hz2).1 (hye k e2 z2 he2 hz2).2 a3 c3 a4 c4 w5 p (fun b hb => by have := hp b hb; omega) (hd.ext xx) (hte.ext xx) (hte2.ext xx))) ?_
      rintro _ w6 ⟨rfl, x6⟩
      refine ⟨by first | assumption | exact Ext.rfl' _ | infer_instance, ?_⟩
      refine zsd ?_
      cases hid : idX tags z z2
      · refine zst ?_
        refine fin1 (.inl rfl) rfl rfl ⟨?_, xx.trans x6⟩
        have : idL tags es es' = false := by
          cases hh : idL tags es es' with
          | false => rfl
          | true => rw [((idL_iff tags es es').1 hh).2 k z z2 hz hz2] at hid; cases hid
        rw [this]
      · refine zst ?_
        exact ⟨k + 1, by omega, ⟨rfl, by omega, xr.trans (x4.trans (x5.trans x6)), fun j z' z'' hj hz' hz'' => by
          by_cases hjk : j = k
          · subst hjk; rw [hz] at hz'; rw [hz2] at hz''; cases hz'; cases hz''; exact hid
          · exact hall j z' z'' (by omega) hz' hz''⟩, sub_of ⟨rfl, rfl, rfl, rfl, rfl, rfl, rfl, rfl, trivial⟩⟩
    · rw [show decide ((k : Int) < (x.elems.length : Int)) = false by simpa using hlt]
      refine zst ?_
      refine fin1 (.inl rfl) rfl rfl ⟨?_, x2.trans xr⟩
      rw [(idL_iff tags es es').2 ⟨by omega, fun j z z' hz hz' => hall j z z' (by have := (List.getElem?_eq_some_iff.1 hz).1; omega) hz hz'⟩]
  · refine zst ?_
    refine fin1 (.inl rfl) rfl rfl ⟨?_, x2⟩
    have : idL tags es es' = false := by
      cases hh : idL tags es es' with
      | false => rfl
      | true => have := ((idL_iff tags es es').1 hh).1; simp at hne; omega
    rw [this]
end Go.Proofs.YtelmnkfdpnkpoaaGreatDoor
namespace Go.Proofs.YtelmnkfdpnkpoaaGreatDoor
open Go Go.Kd
set_option maxRecDepth 100000

def fan (t : Ty) : List An := t.elems.map fun e => ⟨e.name.toList, e.tag.toList, t.n, e.emb⟩
theorem fan_at {t : Ty} {i : Nat} {e : Ty} (h : t.elems[i]? = some e) : (fan t)[i]? = some ⟨e.name.toList, e.tag.toList, t.n, e.emb⟩ := by simp [fan, h]
theorem fan_len (t : Ty) : (fan t).length = t.elems.length := by simp [fan]

theorem c_sameFields (tags : Bool) {x y : Ty} (a1 : Option Addr) (c1 : Nat) (a2 : Option Addr) (c2 : Nat) (w : World) (p : Nat → Prop)
    (ht1 : TysV w p a1 c1 x.elems) (ht2 : TysV w p a2 c2 y.elems) (hln : x.elems.length ≤ 16777216) :
    Calls Tryz.prog 49 #[.agg (tyc x a1 c1).toArray, .agg (tyc y a2 c2).toArray, .bool tags] w (Ret fun r w' => r = .bool (sameAn tags (fan x) (fan y)) ∧ Ext w w') := by
  refine W.enter (args := [.agg (tyc x a1 c1).toArray, .agg (tyc y a2 c2).toArray, .bool tags]) Tryz.func49 rfl Tryz.ntmps49 rfl rfl ?_
  refine zst ?_
  refine WU.stp rfl rfl rfl (by first | exact stp_box rfl rfl | exact stp_box1 rfl rfl) ?_
  rintro _ w1 ⟨b1, rfl, n1⟩
  refine WU.stp rfl rfl rfl (by first | exact stp_box rfl rfl | exact stp_box1 rfl rfl) ?_
  rintro _ w2 ⟨b2, rfl, n2⟩
  have e1 := n1.num
  have e2 := n2.num
  have s1 := n1.size
  have x2 : Ext w w2 := n1.ext.trans n2.ext
  have i1 : Has w2 b1 _ := n1.has.ext' n2.ext
  have i2 : Has w2 b2 _ := n2.has
  clear n1 n2
  refine zst ?_
  cases hne : ((x.elems.length : Int) != (y.elems.length : Int))
  · have hll : x.elems.length = y.elems.length := by simp at hne; omega
    refine zst ?_
    refine W.loop (σ := Nat) (fun k => [(20, .int .i64 k), (19, .int .i64 x.elems.length), (18, .slice a1 x.elems.length c1), (6, .bool false), (4, .pointer (some ⟨b2, 0, none⟩)), (3, .pointer (some ⟨b1, 0, none⟩)), (2, .bool tags)])
      (fun k D' wk => D' = [] ∧ k ≤ x.elems.length ∧ Ext w2 wk ∧ ∀ (j : Nat) e f, j < k → x.elems[j]? = some e → y.elems[j]? = some f → (sameNm e.name.toList x.n f.name.toList y.n && (e.emb == f.emb && (!tags || e.tag.toList == f.tag.toList))) = true)
      (fun k => x.elems.length - k) 0 ⟨rfl, Nat.zero_le _, Ext.rfl' _, fun j e f h => by omega⟩ (by exact sub_of ⟨rfl, rfl, rfl, rfl, rfl, rfl, rfl, trivial⟩) ?_
    rintro k D' wr ⟨rfl, hk, xr, hall⟩
    have hsz := xr.size
    have hsz2 := x2.size
    have i1' : Has wr b1 _ := i1.ext' xr
    have i2' : Has wr b2 _ := i2.ext' xr
    refine zst ?_
    by_cases hlt : k < x.elems.length
    · rw [show decide ((k : Int) < (x.elems.length : Int)) = true by simpa using hlt]
      have he := List.getElem?_eq_getElem hlt
      have hlt2 : k < y.elems.length := by omega
      have he2 := List.getElem?_eq_getElem hlt2
      generalize x.elems[k] = e at he
      generalize y.elems[k] = f at he2
      obtain ⟨b, o, a3, c3, rfl, hpb, hc, hte⟩ := ht1.next he
      obtain ⟨b', o', a4, c4, rfl, hpb', hc2, hte2⟩ := ht2.next he2
      have hc' : Cells wr b (o + k * 8) (tyc e a3 c3) := hc.ext (x2.trans xr)
      refine zst ?_
      refine WU.yld rfl rfl rfl (yld_load_cells rfl hc') ?_
      refine WU.stp rfl rfl rfl stp_alloc ?_
      rintro _ w3 ⟨b3, rfl, n3⟩
      refine zst ?_
      refine WU.stp0 rfl rfl (stp_store_whole rfl rfl rfl rfl) ?_
      rintro _ w4 u4
      have x4 : Ext wr w4 := (u4.ofNew n3).ext
      have i4 : Has w4 b3 _ := u4.has
      have e3 := n3.num
      have i1'' : Has w4 b1 _ := i1'.ext' x4
      have i2'' : Has w4 b2 _ := i2'.ext' x4
      have s4 := x4.size
      clear u4 n3
      refine zst ?_
      have hc2' : Cells w4 b' (o' + k * 8) (tyc f a4 c4) := hc2.ext (x2.trans (xr.trans x4))
      refine WU.yld rfl rfl rfl (yld_load_cells rfl hc2') ?_
      refine WU.stp rfl rfl rfl stp_alloc ?_
      rintro _ w5 ⟨b5, rfl, n5⟩
      refine WU.stp0 rfl rfl (stp_store_whole rfl rfl rfl rfl) ?_
      rintro _ w6 u6
      have x6 : Ext w4 w6 := (u6.ofNew n5).ext
      have i6 : Has w6 b5 _ := u6.has
      have i4' : Has w6 b3 _ := i4.ext' x6
      have j1 : Has w6 b1 _ := i1''.ext' x6
      have j2 : Has w6 b2 _ := i2''.ext' x6
      clear u6 n5
      refine WU.nilk ?_
      refine W.cut [(56, .bool (!(sameNm e.name.toList x.n f.name.toList y.n && (e.emb == f.emb && (!tags || e.tag.toList == f.tag.toList))))), (20, .int .i64 k), (19, .int .i64 x.elems.length), (18, .slice (some ⟨b, o, none⟩) x.elems.length c1), (6, .bool false), (4, .pointer (some ⟨b2, 0, none⟩)), (3, .pointer (some ⟨b1, 0, none⟩)), (2, .bool tags)] ?_ ?_
      · refine zst ?_
        refine WU.stp rfl rfl rfl (stp_call rfl (c_sameName e.name f.name x.n y.n w6)) ?_
        rintro _ _ ⟨rfl, rfl⟩
        cases hs : sameNm e.name.toList x.n f.name.toList y.n
        · refine zst ?_
          exact ⟨rfl, rfl, rfl, rfl, rfl, rfl, rfl, rfl, rfl, rfl, trivial⟩
        · refine zst ?_
          cases hm : (e.emb == f.emb)
          · refine zst ?_
            exact ⟨rfl, rfl, rfl, rfl, rfl, rfl, rfl, rfl, rfl, rfl, trivial⟩
          · cases tags <;> (
              refine zst ?_
              exact ⟨rfl, rfl, rfl, rfl, rfl, rfl, rfl, rfl, rfl, rfl, trivial⟩)
      cases hq : (sameNm e.name.toList x.n f.name.toList y.n && (e.emb == f.emb && (!tags || e.tag.toList == f.tag.toList)))
      · refine zst ?_
        refine fin1 (.inl rfl) rfl rfl ⟨?_, x2.trans (xr.trans (x4.trans x6))⟩
        have : sameAn tags (fan x) (fan y) = false := by
          cases hh : sameAn tags (fan x) (fan y) with
          | false => rfl
          | true =>
            have h1 := ((sameAn_iff tags _ _).1 hh).2 k _ _ (fan_at he) (fan_at he2)
            rw [show sameNm e.name.toList x.n f.name.toList y.n = true from sameNm_iff.2 h1.1, show (e.emb == f.emb) = true by simpa using h1.2.1] at hq
            cases tags
            · simp at hq
            · have := h1.2.2 rfl
              simp at this
              simp [this] at hq
        rw [this]
      · refine zst ?_
        exact ⟨k + 1, by omega, ⟨rfl, by omega, xr.trans (x4.trans x6), fun j e' f' hj he' hf' => by
          by_cases hjk : j = k
          · subst hjk; rw [he] at he'; rw [he2] at hf'; cases he'; cases hf'; exact hq
          · exact hall j e' f' (by omega) he' hf'⟩, sub_of ⟨rfl, rfl, rfl, rfl, rfl, rfl, rfl, trivial⟩⟩
    · rw [show decide ((k : Int) < (x.elems.length : Int)) = false by simpa using hlt]
      refine zst ?_
      refine fin1 (.inl rfl) rfl rfl ⟨?_, x2.trans xr⟩
      rw [(sameAn_iff tags _ _).2 ⟨by rw [fan_len, fan_len]; omega, fun j a b ha hb => ?_⟩]
      have hj : j < x.elems.length := by rw [← fan_len]; exact (List.getElem?_eq_some_iff.1 ha).1
      have he := List.getElem?_eq_getElem hj
      have he2 := List.getElem?_eq_getElem (show j < y.elems.length by omega)
      have := hall j _ _ (by omega) he he2
      rw [fan_at he] at ha
      rw [fan_at he2] at hb
      cases ha; cases hb
      simp only [Bool.and_eq_true, Bool.or_eq_true, beq_iff_eq, Bool.not_eq_true'] at this
      exact ⟨sameNm_iff.1 this.1, this.2.1, fun ht => this.2.2.resolve_left (by simp [ht])⟩
  · refine zst ?_
    refine fin1 (.inl rfl) rfl rfl ⟨?_, x2⟩
    have : sameAn tags (fan x) (fan y) = false := by
      cases hh : sameAn tags (fan x) (fan y) with
      | false => rfl
      | true => have := ((sameAn_iff tags _ _).1 hh).1; rw [fan_len, fan_len] at this; simp at hne; omega
    rw [this]
end Go.Proofs.YtelmnkfdpnkpoaaGreatDoor
namespace Go.Proofs.YtelmnkfdpnkpoaaGreatDoor
open Go Go.Kd
set_option maxRecDepth 100000

theorem anM_at {ms : List Mt} {i : Nat} {m : Mt} (h : ms[i]? = some m) : (anM ms)[i]? = some ⟨m.name.toList, [], m.pkg, false⟩ := by simp [anM, h]
theorem anM_len (ms : List Mt) : (anM ms).length = ms.length := by simp [anM]

theorem c_sameMethods {D : List De} (a : Option Addr) (cp : Nat) (tags : Bool) {ms ms' : List Mt} {es es' : List X} (hx : es.length = ms.length) (hy : es'.length = ms'.length) (hxe : ∀ (i : Nat) m z, ms[i]? = some m → es[i]? = some z → IdC D a cp tags m.fn z)
    (hye : ∀ (i : Nat) m z, ms'[i]? = some m → es'[i]? = some z → Exp D m.fn z ∧ Good D m.fn) (v v' : Value) (w : World) (p : Nat → Prop) (hp : ∀ b, p b → b < w.heap.size)
    (hd : DsV w p (.slice a D.length cp) D) (hl1 : MtsV w p v ms) (hl2 : MtsV w p v' ms') (hln2 : ms'.length ≤ 1073741824) :
    Calls Tryz.prog 50 #[.slice a D.length cp, v, v', .bool tags] w (Ret fun r w' => r = .bool ((anM ms).length == (anM ms').length && idM tags (anM ms) es (anM ms') es') ∧ Ext w w') := by
  obtain ⟨a1, c1, rfl⟩ := hl1.shape
  obtain ⟨a2, c2, rfl⟩ := hl2.shape
  have hiff := idM_iff tags (anM ms') es' es (anM ms) (by rw [anM_len]; omega)
  refine W.enter (args := [.slice a D.length cp, .slice a1 ms.length c1, .slice a2 ms'.length c2, .bool tags]) Tryz.func50 rfl Tryz.ntmps50 rfl rfl ?_
  refine zst ?_
  rw [anM_len, anM_len]
  cases hne : ((ms.length : Int) != (ms'.length : Int))
  · have hll : ms.length = ms'.length := by simp at hne; omega
    rw [show (ms.length == ms'.length) = true by simpa using hll, Bool.true_and]
    refine zst ?_
    refine W.loop (σ := Nat) (fun k => [(20, .int .i64 k), (19, .int .i64 ms.length), (18, .slice a1 ms.length c1), (8, .bool false), (3, .bool tags), (2, .slice a2 ms'.length c2), (0, .slice a D.length cp)])
      (fun k D' wk => D' = [] ∧ k ≤ ms.length ∧ Ext w wk ∧ ∀ (j : Nat) m z, j < k → ms[j]? = some m → es[j]? = some z → ∃ y, findX (anM ms') es' m.name.toList m.pkg = some y ∧ idX tags z y = true)
      (fun k => ms.length - k) 0 ⟨rfl, Nat.zero_le _, Ext.rfl' _, fun j e f h => by omega⟩ (by exact sub_of ⟨rfl, rfl, rfl, rfl, rfl, rfl, rfl, trivial⟩) ?_
    rintro k D' wr ⟨rfl, hk, xr, hall⟩
    have hsz := xr.size
    refine zst ?_
    by_cases hlt : k < ms.length
    · rw [show decide ((k : Int) < (ms.length : Int)) = true by simpa using hlt]
      have hm := List.getElem?_eq_getElem hlt
      have hz := List.getElem?_eq_getElem (show k < es.length by omega)
      generalize ms[k] = m at hm
      generalize es[k] = z at hz
      have hno : (∀ y, findX (anM ms') es' m.name.toList m.pkg = some y → idX tags z y = false) → idM tags (anM ms) es (anM ms') es' = false := fun h => by
        cases hh : idM tags (anM ms) es (anM ms') es' with
        | false => rfl
        | true =>
          obtain ⟨y, h1, h2⟩ := hiff.1 hh k _ z (anM_at hm) hz
          rw [h y h1] at h2; cases h2
      obtain ⟨b, o, a3, c3, rfl, hpb, hc, hte⟩ := hl1.next hm
      have hc' : Cells wr b (o + k * 10) (mtl m a3 c3) := hc.ext xr
      refine zst ?_
      refine WU.yld rfl rfl rfl (yld_load_cells rfl hc') ?_
      refine WU.stp rfl rfl rfl stp_alloc ?_
      rintro _ w3 ⟨b3, rfl, n3⟩
      refine WU.stp0 rfl rfl (stp_store_whole rfl rfl rfl rfl) ?_
      rintro _ w4 u4
      have x4 : Ext wr w4 := (u4.ofNew n3).ext
      have i4 : Has w4 b3 _ := u4.has
      have s4 := x4.size
      clear u4 n3
      refine zst ?_
      refine WU.stp rfl rfl rfl (stp_call rfl (c_find m.name m.pkg w4 (hl2.ext (xr.trans x4)) hln2)) ?_
      rintro r9 w9 ⟨hf9, x9⟩
      have i9 : Has w9 b3 _ := i4.ext' x9
      have hs9 := x9.size
      rcases find_rel ms' es' m.name.toList m.pkg hy with ⟨h1, h2⟩ | ⟨j, n, y, h1, h2, h3, h4⟩
      · rw [h1] at hf9
        obtain rfl : r9 = .tuple #[.agg mtz.toArray, .bool false] := hf9
        refine zst ?_
        refine WU.stp rfl rfl rfl stp_alloc ?_
        rintro _ w10 ⟨b10, rfl, n10⟩
        refine WU.stp0 rfl rfl (stp_store_whole rfl rfl rfl rfl) ?_
        rintro _ w11 u11
        have x11 : Ext w9 w11 := (u11.ofNew n10).ext
        have i11 : Has w11 b3 _ := i9.ext' x11
        clear n10
        refine zst ?_
        refine fin1 (.inl rfl) rfl rfl ⟨?_, xr.trans (x4.trans (x9.trans x11))⟩
        rw [hno fun y h => by rw [h2] at h; cases h]
      · rw [h1] at hf9
        obtain ⟨a9, c9, rfl, ht9⟩ := hf9
        refine zst ?_
        refine WU.stp rfl rfl rfl stp_alloc ?_
        rintro _ w10 ⟨b10, rfl, n10⟩
        refine WU.stp0 rfl rfl (stp_store_whole rfl rfl rfl rfl) ?_
        rintro _ w11 u11
        have x11 : Ext w9 w11 := (u11.ofNew n10).ext
        have i11 : Has w11 b3 _ := i9.ext' x11
        have i12 : Has w11 b10 _ := u11.has
        have hs11 := x11.size
        clear u11 n10
        refine zst ?_
        refine WU.yld rfl rfl rfl (yld_load_cells rfl (Cells.mt_ty (Cells.has i11))) ?_
        refine zst ?_
        refine WU.yld rfl rfl rfl (yld_load_cells rfl (Cells.mt_ty (Cells.has i12))) ?_
        refine zst ?_
        have xx := xr.trans (x4.trans (x9.trans x11))
        refine WU.stp rfl rfl rfl (stp_call rfl (hxe k m z hm hz n.fn y (hye j n y h2 h3).1 (hye j n y h2 h3).2 a3 c3 a9 c9 w11 p (fun b hb => by have := hp b hb; omega) (hd.ext xx) (hte.ext xx) (ht9.ext x11))) ?_
        rintro _ w13 ⟨rfl, x13⟩
        cases hid : idX tags z y
        · refine zst ?_
          refine fin1 (.inl rfl) rfl rfl ⟨?_, xx.trans x13⟩
          rw [hno fun y' h => by rw [h4] at h; cases h; exact hid]
        · refine zst ?_
          exact ⟨k + 1, by omega, ⟨rfl, by omega, xx.trans x13, fun j' m' z' hj hm' hz' => by
            by_cases hjk : j' = k
            · subst hjk; rw [hm] at hm'; rw [hz] at hz'; cases hm'; cases hz'; exact ⟨y, h4, hid⟩
            · exact hall j' m' z' (by omega) hm' hz'⟩, sub_of ⟨rfl, rfl, rfl, rfl, rfl, rfl, rfl, trivial⟩⟩
    · rw [show decide ((k : Int) < (ms.length : Int)) = false by simpa using hlt]
      refine zst ?_
      refine fin1 (.inl rfl) rfl rfl ⟨?_, xr⟩
      rw [hiff.2 fun j a' z ha hz => ?_]
      have hj : j < ms.length := by rw [← anM_len]; exact (List.getElem?_eq_some_iff.1 ha).1
      have hm := List.getElem?_eq_getElem hj
      rw [anM_at hm] at ha
      cases ha
      exact hall j _ z (by omega) hm hz
  · refine zst ?_
    refine fin1 (.inl rfl) rfl rfl ⟨?_, Ext.rfl' _⟩
    rw [show (ms.length == ms'.length) = false by simp at hne; simp; omega, Bool.false_and]
end Go.Proofs.YtelmnkfdpnkpoaaGreatDoor
namespace Go.Proofs.YtelmnkfdpnkpoaaGreatDoor
open Go Go.Kd
set_option maxRecDepth 100000

theorem anN_fan {t : Ty} (h : t.kind = 7) : anN t = fan t := by unfold anN fan; rw [if_pos h]
/-- the roots of two trees -/
theorem exp_kind {D : List De} {t : Ty} {x : X} (h : Exp D t x) : (∃ n, x = .leaf (unaliasT D t).kind n) ∨ ∃ n c vr an es, x = .node (unaliasT D t).kind n c vr an es := by
  cases h with
  | leaf => exact .inl ⟨_, rfl⟩
  | plain => exact .inr ⟨_, _, _, _, _, rfl⟩
  | iface _ ms es h9 => exact .inr ⟨0, 0, false, anM ms, es, by rw [h9]⟩
theorem idX_kind {D : List De} {tags : Bool} {t t' : Ty} {x y : X} (h : Exp D t x) (h' : Exp D t' y) (hne : (unaliasT D t).kind ≠ (unaliasT D t').kind) : idX tags x y = false := by
  rcases exp_kind h with ⟨n, rfl⟩ | ⟨n, c, vr, an, es, rfl⟩ <;> rcases exp_kind h' with ⟨n', rfl⟩ | ⟨n', c', vr', an', es', rfl⟩
  · simp [idX, hne]
  · simp [idX]
  · simp [idX]
  · rw [idX_node]; simp [hne]

theorem exp_leaf_inv {D : List De} {t : Ty} {x : X} (h : Exp D t x) (hk : (unaliasT D t).kind = 0 ∨ (unaliasT D t).kind = 1) : x = .leaf (unaliasT D t).kind (unaliasT D t).n := by
  cases h with
  | leaf => rfl
  | plain => omega
  | iface => omega
theorem exp_plain_inv {D : List De} {t : Ty} {x : X} (h : Exp D t x) (h2 : 2 ≤ (unaliasT D t).kind) (h8 : (unaliasT D t).kind ≤ 8) : ∃ es, es.length = (unaliasT D t).elems.length ∧ (∀ (i : Nat) e z, (unaliasT D t).elems[i]? = some e → es[i]? = some z → Exp D e z) ∧
    x = .node (unaliasT D t).kind (nN (unaliasT D t)) (cN (unaliasT D t)) (vN (unaliasT D t)) (anN (unaliasT D t)) es := by
  cases h with
  | leaf => omega
  | plain _ es _ _ hl he => exact ⟨es, hl, he, rfl⟩
  | iface => omega
theorem exp_iface_inv {D : List De} {t : Ty} {x : X} (h : Exp D t x) (h9 : (unaliasT D t).kind = 9) : ∃ ms es, IM D (unaliasT D t) ms ∧ es.length = ms.length ∧ (∀ (i : Nat) m z, ms[i]? = some m → es[i]? = some z → Exp D m.fn z) ∧ x = .node 9 0 0 false (anM ms) es := by
  cases h with
  | leaf => omega
  | plain => omega
  | iface _ ms es _ him hl he => exact ⟨ms, es, him, hl, he, rfl⟩

theorem IM_len' {D : List De} (hD : OkD D) {t : Ty} (hG : Good D t) {ms : List Mt} (h : IM D t ms) : ms.length ≤ 1073741824 := by
  obtain ⟨i, v, hi, hs⟩ := hG.sh
  have := IM_len hD.sh h hi hs
  have := hG.wt
  have := hD.wt
  omega

set_option maxHeartbeats 8000000 in
theorem c_Identical {D : List De} (hD : OkD D) (a : Option Addr) (cp : Nat) (tags : Bool) {x : Ty} {xx : X} (h : Exp D x xx) : Good D x → IdC D a cp tags x xx := by
  have main : ∀ (x : Ty) (xx : X), Exp D x xx → Good D x → (2 ≤ (unaliasT D x).kind → (unaliasT D x).kind ≤ 8 → ∀ es, xx = .node (unaliasT D x).kind (nN (unaliasT D x)) (cN (unaliasT D x)) (vN (unaliasT D x)) (anN (unaliasT D x)) es →
        ∀ (i : Nat) e z, (unaliasT D x).elems[i]? = some e → es[i]? = some z → IdC D a cp tags e z) →
      ((unaliasT D x).kind = 9 → ∀ ms es, IM D (unaliasT D x) ms → xx = .node 9 0 0 false (anM ms) es → ∀ (i : Nat) m z, ms[i]? = some m → es[i]? = some z → IdC D a cp tags m.fn z) → IdC D a cp tags x xx := by
    intro x xx hX hG hpl hif y yy hY hGy a1 c1 a2 c2 w p hp hd ht1 ht2
    have hGu := hG.unalias hD
    have hGv := hGy.unalias hD
    refine W.enter (args := [.slice a D.length cp, .agg (tyc x a1 c1).toArray, .agg (tyc y a2 c2).toArray, .bool tags]) Tryz.func22 rfl Tryz.ntmps22 rfl rfl ?_
    refine zst ?_
    refine WU.stp rfl rfl rfl (by first | exact stp_box rfl rfl | exact stp_box1 rfl rfl) ?_
    rintro _ w1 ⟨b1, rfl, n1⟩
    refine WU.stp rfl rfl rfl (by first | exact stp_box rfl rfl | exact stp_box1 rfl rfl) ?_
    rintro _ w2 ⟨b2, rfl, n2⟩
    have e1 := n1.num
    have e2 := n2.num
    have s1 := n1.size
    have s2 := n2.size
    have x2 : Ext w w2 := n1.ext.trans n2.ext
    have i1 : Has w2 b1 _ := n1.has.ext' n2.ext
    have i2 : Has w2 b2 _ := n2.has
    clear n1 n2
    refine zst ?_
    refine W.regD [(0, .q), (1, .q), (3, .q), (4, .q), (2, .l), (5, .l), (6, .z), (7, .z)] (by kernel_rfl) (by kernel_rfl) rfl ?_
    intro w3 x3 _
    have j1 : Has w3 b1 _ := i1.ext' x3
    have j2 : Has w3 b2 _ := i2.ext' x3
    refine zsd ?_
    have s3 := x3.size
    refine WD.stp rfl rfl rfl rfl (stp_call rfl (c_Unalias hD hG a cp a1 c1 w3 (hd.ext (x2.trans x3)) (ht1.ext (x2.trans x3)))) ?_
    rintro _ w4 ⟨a3, c3, rfl, ht3, x4⟩
    refine ⟨by first | assumption | exact Ext.rfl' _ | infer_instance, ?_⟩
    refine WD.stp rfl rfl rfl rfl (stp_call rfl (c_Unalias hD hGy a cp a2 c2 w4 (hd.ext (x2.trans (x3.trans x4))) (ht2.ext (x2.trans (x3.trans x4))))) ?_
    rintro _ w5 ⟨a4, c4, rfl, ht4, x5⟩
    refine ⟨by first | assumption | exact Ext.rfl' _ | infer_instance, ?_⟩
    have k1 : Has w5 b1 _ := (j1.ext' x4).ext' x5
    have k2 : Has w5 b2 _ := (j2.ext' x4).ext' x5
    have s5 := (x4.trans x5).size
    refine WD.last0 rfl rfl rfl (stp_store_whole rfl rfl rfl rfl) ?_
    rintro _ w6 u6
    have l2 : Has w6 b2 _ := u6.keep k2 (by omega)
    refine WD.last0 rfl rfl rfl (stp_store_whole rfl rfl rfl rfl) ?_
    rintro _ w7 u7
    have m1 : Has w7 b1 _ := u7.keep u6.has (by omega)
    have m2 : Has w7 b2 _ := u7.has
    have x7 : Ext w w7 := u7.ext (u6.ext (x2.trans (x3.trans (x4.trans x5))) (by omega)) (by omega)
    have np1 : ¬ p b1 := fun h => by have := hp _ h; omega
    have np2 : ¬ p b2 := fun h => by have := hp _ h; omega
    have t3 : TysV w7 p a3 c3 (unaliasT D x).elems := (((ht3.ext x4).ext x5).upd u6 np1).upd u7 np2
    have t4 : TysV w7 p a4 c4 (unaliasT D y).elems := ((ht4.ext x5).upd u6 np1).upd u7 np2
    have hd7 : DsV w7 p (.slice a D.length cp) D := hd.ext x7
    have hp7 : ∀ b, p b → b < w7.heap.size := fun b hb => by have := hp b hb; have := x7.size; omega
    have hlu := wt_len (unaliasT D x)
    have hwu := hGu.wt
    clear u6 u7 k1 k2 j1 j2 i1 i2 ht3 ht4
    refine zsd ?_
    generalize hu : unaliasT D x = u at hpl hif hGu t3 m1 hlu hwu
    generalize hv : unaliasT D y = v at hGv t4 m2
    have hkr := hGu.sh.choose_spec.choose_spec.2.shape
    have hplain : 2 ≤ u.kind → u.kind ≤ 8 → u.kind = v.kind → ∃ es es', idX tags xx yy = (nN u == nN v && (cN u == cN v && (vN u == vN v && (sameAn tags (anN u) (anN v) && idL tags es es')))) ∧
        ∀ wz, Ext w7 wz → Calls Tryz.prog 48 #[.slice a D.length cp, .agg (tyc u a3 c3).toArray, .agg (tyc v a4 c4).toArray, .bool tags] wz (Ret fun r w' => r = .bool (idL tags es es') ∧ Ext wz w') := by
      intro k2 k8 kk
      obtain ⟨es, g1, g2, g3⟩ := exp_plain_inv hX (by rw [hu]; exact k2) (by rw [hu]; exact k8)
      obtain ⟨es', g4, g5, g6⟩ := exp_plain_inv hY (by rw [hv]; omega) (by rw [hv]; omega)
      rw [hu] at g1 g2 g3
      rw [hv] at g4 g5 g6
      refine ⟨es, es', ?_, fun wz xz => c_identicalElems a cp tags g1 g4 (hpl k2 k8 es g3) (fun i e z he hz => ⟨g5 i e z he hz, hGv.el he⟩) a3 c3 a4 c4 wz p (fun b hb => by have := hp7 b hb; have := xz.size; omega) (hd7.ext xz) (t3.ext xz) (t4.ext xz) (by omega)⟩
      rw [g3, g6, idX_node, kk, beq_self_eq_true, Bool.true_and, if_neg (by omega)]
      simp only [Bool.and_assoc]
    cases hne : (u.kind != v.kind) with
    | true =>
      refine zst ?_
      rw [hne]
      refine zst ?_
      refine fin1 (.inl rfl) rfl rfl ⟨?_, x7⟩
      rw [idX_kind hX hY (by rw [hu, hv]; simpa using hne)]
    | false =>
    have kk : u.kind = v.kind := by simpa using hne
    have hleaf : u.kind = 0 ∨ u.kind = 1 → idX tags xx yy = (u.n == v.n) := fun h => by
      rw [exp_leaf_inv hX (by rw [hu]; exact h), exp_leaf_inv hY (by rw [hv]; omega), hu, hv, idX]
      simp [kk]
    refine zst ?_
    rw [hne]
    refine zst ?_
    cases k0 : (u.kind == 0)
    · refine zst ?_
      cases k1 : (u.kind == 1)
      · refine zst ?_
        cases k4 : (u.kind == 4)
        · refine zst ?_
          cases k6 : (u.kind == 6)
          · refine zst ?_
            cases k7 : (u.kind == 7)
            · refine zst ?_
              cases k8 : (u.kind == 8)
              · refine zst ?_
                cases k9 : (u.kind == 9)
                · refine zst ?_
                  simp only [beq_eq_false_iff_ne] at k0 k1 k4 k6 k7 k8 k9
                  have := hkr.lo
                  have := hkr.hi
                  obtain ⟨es, es', g1, g2⟩ := hplain (by omega) (by omega) kk
                  refine WU.stp rfl rfl rfl (stp_call rfl (g2 w7 (Ext.rfl' _))) ?_
                  rintro _ w8 ⟨rfl, x8⟩
                  refine zst ?_
                  refine fin1 (.inl rfl) rfl rfl ⟨?_, x7.trans x8⟩
                  rw [g1]
                  simp [nN, cN, vN, anN, ← kk, k4, k6, k7, k8, sameAn]
                · refine zst ?_
                  have hk9 : u.kind = 9 := by simpa using k9
                  obtain ⟨ms, es, g1, g2, g3, g4⟩ := exp_iface_inv hX (by rw [hu]; exact hk9)
                  obtain ⟨ms', es', g5, g6, g7, g8⟩ := exp_iface_inv hY (by rw [hv]; omega)
                  rw [hu] at g1
                  rw [hv] at g5
                  have gl1 := IM_len' hD hGv g5
                  have gl2 := IM_len' hD hGu g1
                  have gm := IM_good hD g5 hGv
                  refine W.regD [(0, .q), (1, .q), (2, .q), (4, .q), (5, .q), (7, .q), (3, .l), (6, .l), (8, .l), (9, .q)] (by kernel_rfl) (by kernel_rfl) rfl ?_
                  intro w8 x8 _
                  have m1' : Has w8 b1 _ := m1.ext' x8
                  have m2' : Has w8 b2 _ := m2.ext' x8
                  refine zsd ?_
                  refine WD.stp rfl rfl rfl rfl (stp_call rfl (c_InterfaceMethods hD a cp g1 hGu a3 c3 w8 p (fun b hb => by have := hp7 b hb; have := x8.size; omega) (hd7.ext x8) (t3.ext x8))) ?_
                  rintro v9 w9 ⟨hm9, x9⟩
                  refine ⟨by first | assumption | exact Ext.rfl' _ | infer_instance, ?_⟩
                  refine WD.stp rfl rfl rfl rfl (stp_call rfl (c_InterfaceMethods hD a cp g5 hGv a4 c4 w9 p (fun b hb => by have := hp7 b hb; have := (x8.trans x9).size; omega) (hd7.ext (x8.trans x9)) (t4.ext (x8.trans x9)))) ?_
                  rintro v10 w10 ⟨hm10, x10⟩
                  refine ⟨by first | assumption | exact Ext.rfl' _ | infer_instance, ?_⟩
                  have s10 := x10.size
                  have s9 := x9.size
                  have s8 := x8.size
                  refine WD.stp rfl rfl rfl rfl (stp_call rfl (c_sameMethods a cp tags g2 g6 (hif hk9 ms es g1 g4) (fun i m z hm hz => ⟨g7 i m z hm hz, gm m (List.mem_of_getElem? hm)⟩) v9 v10 w10 (btw w8 w10 p) (fun b hb => by
                                      rcases hb with hb | hb
                                      · have := hp7 b hb; omega
                                      · omega) ((hd7.ext (x8.trans (x9.trans x10))).mono fun b hb => .inl hb) ((hm9.ext x10).mono fun b hb => by
                                      rcases hb with hb | hb
                                      · exact .inl hb
                                      · exact .inr (by omega)) (hm10.mono fun b hb => by
                                      rcases hb with hb | hb
                                      · exact .inl hb
                                      · exact .inr (by omega)) gl1)) ?_
                  rintro _ w11 ⟨rfl, x11⟩
                  refine ⟨by first | assumption | exact Ext.rfl' _ | infer_instance, ?_⟩
                  refine zsd ?_
                  refine zst ?_
                  refine fin1 (.inl rfl) rfl rfl ⟨?_, x7.trans (x8.trans (x9.trans (x10.trans x11)))⟩
                  rw [g4, g8, idX_node]
                  simp
              · refine zst ?_
                have hk8 : u.kind = 8 := by simpa using k8
                obtain ⟨es, es', g1, g2⟩ := hplain (by omega) (by omega) kk
                have hr : idX tags xx yy = (u.count == v.count && (u.vr == v.vr && idL tags es es')) := by
                  rw [g1]; simp [nN, cN, vN, anN, ← kk, hk8, sameAn]
                rw [hr]
                cases c1' : (u.count == v.count)
                · refine zst ?_
                  exact fin1 (.inl rfl) rfl rfl ⟨rfl, x7⟩
                · refine zst ?_
                  cases c2' : (u.vr == v.vr)
                  · refine zst ?_
                    exact fin1 (.inl rfl) rfl rfl ⟨rfl, x7⟩
                  · refine zst ?_
                    refine WU.stp rfl rfl rfl (stp_call rfl (g2 w7 (Ext.rfl' _))) ?_
                    rintro _ w8 ⟨rfl, x8⟩
                    refine zst ?_
                    exact fin1 (.inl rfl) rfl rfl ⟨rfl, x7.trans x8⟩
            · refine zst ?_
              have hk7 : u.kind = 7 := by simpa using k7
              obtain ⟨es, es', g1, g2⟩ := hplain (by omega) (by omega) kk
              have hr : idX tags xx yy = (sameAn tags (fan u) (fan v) && idL tags es es') := by
                rw [g1, anN_fan hk7, anN_fan (by omega)]; simp [nN, cN, vN, ← kk, hk7]
              rw [hr]
              refine WU.stp rfl rfl rfl (stp_call rfl (c_sameFields tags a3 c3 a4 c4 w7 p t3 t4 (by omega))) ?_
              rintro _ w8 ⟨rfl, x8⟩
              have m1' : Has w8 b1 _ := m1.ext' x8
              have m2' : Has w8 b2 _ := m2.ext' x8
              cases c1' : sameAn tags (fan u) (fan v)
              · refine zst ?_
                exact fin1 (.inl rfl) rfl rfl ⟨rfl, x7.trans x8⟩
              · refine zst ?_
                refine WU.stp rfl rfl rfl (stp_call rfl (g2 w8 x8)) ?_
                rintro _ w9 ⟨rfl, x9⟩
                refine zst ?_
                exact fin1 (.inl rfl) rfl rfl ⟨rfl, x7.trans (x8.trans x9)⟩
          · refine zst ?_
            have hk6 : u.kind = 6 := by simpa using k6
            obtain ⟨es, es', g1, g2⟩ := hplain (by omega) (by omega) kk
            have hr : idX tags xx yy = (u.n == v.n && idL tags es es') := by
              rw [g1]; simp [nN, cN, vN, anN, ← kk, hk6, sameAn]
            rw [hr]
            cases c1' : (u.n == v.n)
            · refine zst ?_
              exact fin1 (.inl rfl) rfl rfl ⟨rfl, x7⟩
            · refine zst ?_
              refine WU.stp rfl rfl rfl (stp_call rfl (g2 w7 (Ext.rfl' _))) ?_
              rintro _ w8 ⟨rfl, x8⟩
              refine zst ?_
              exact fin1 (.inl rfl) rfl rfl ⟨rfl, x7.trans x8⟩
        · refine zst ?_
          have hk4 : u.kind = 4 := by simpa using k4
          obtain ⟨es, es', g1, g2⟩ := hplain (by omega) (by omega) kk
          have hr : idX tags xx yy = (u.n == v.n && idL tags es es') := by
            rw [g1]; simp [nN, cN, vN, anN, ← kk, hk4, sameAn]
          rw [hr]
          cases c1' : (u.n == v.n)
          · refine zst ?_
            exact fin1 (.inl rfl) rfl rfl ⟨rfl, x7⟩
          · refine zst ?_
            refine WU.stp rfl rfl rfl (stp_call rfl (g2 w7 (Ext.rfl' _))) ?_
            rintro _ w8 ⟨rfl, x8⟩
            refine zst ?_
            exact fin1 (.inl rfl) rfl rfl ⟨rfl, x7.trans x8⟩
      · refine zst ?_
        exact fin1 (.inl rfl) rfl rfl ⟨by rw [hleaf (.inr (by simpa using k1))], x7⟩
    · refine zst ?_
      exact fin1 (.inl rfl) rfl rfl ⟨by rw [hleaf (.inl (by simpa using k0))], x7⟩
  induction h with
  | leaf t hk => exact fun hG => main t _ (.leaf t hk) hG (fun h => by omega) (fun h => by omega)
  | plain t es h2 h8 hl he ih =>
    refine fun hG => main t _ (.plain t es h2 h8 hl he) hG (fun _ _ es' heq i e z hE hz => ?_) (fun h => by omega)
    cases heq
    exact ih i e z hE hz ((hG.unalias hD).el hE)
  | iface t ms es h9 him hl he ih =>
    refine fun hG => main t _ (.iface t ms es h9 him hl he) hG (fun _ h => by omega) (fun _ ms' es' him' heq i m z hm hz => ?_)
    have := him.det him'
    subst this
    cases heq
    exact ih i m z hm hz (IM_good hD him (hG.unalias hD) m (List.mem_of_getElem? hm))
end Go.Proofs.YtelmnkfdpnkpoaaGreatDoor
namespace Go.Proofs.YtelmnkfdpnkpoaaGreatDoor
open Go Go.Kd
set_option maxRecDepth 100000

/-- a byte or 0x20 -/
def or32 (c : UInt8) : Int := IntKind.u8.wrap (BitVec.ofInt IntKind.u8.bits (c.toNat : Int) ||| BitVec.ofInt IntKind.u8.bits 32).toNat
theorem or32_fin : ∀ n : Fin 256, or32 (UInt8.ofNat n.val) = (((UInt8.ofNat n.val) ||| 32).toNat : Int) := by decide +kernel
theorem or32_eq (c : UInt8) : or32 c = ((c ||| 32).toNat : Int) := by
  have := or32_fin ⟨c.toNat, c.toNat_lt⟩
  simpa using this
theorem us_list : (⟨#[95]⟩ : ByteArray).toList = us := by rw [Lib.toList_data]; rfl

theorem c_isIdentifier (nm : ByteArray) (w : World) (hn : nm.size ≤ 9223372036854775807) :
    Calls Tryz.prog 38 #[.string nm] w (Ret fun r w' => ∃ b, r = .bool b ∧ (b = true → Ident nm.toList) ∧ w = w') := by
  have hsz := size_toList nm
  refine W.enter (args := [.string nm]) Tryz.func38 rfl Tryz.ntmps38 rfl rfl ?_
  refine zst ?_
  rw [us_list]
  cases h0 : (nm.toList == us)
  · refine zst ?_
    refine W.loop (σ := Nat) (fun k => [(9, .int .i64 k), (8, .int .i64 nm.size), (2, .bool false), (0, .string nm)])
      (fun k D' wk => D' = [] ∧ k ≤ nm.size ∧ w = wk ∧ ∀ (j : Nat) c, j < k → nm.toList[j]? = some c → letter c = true ∨ (j ≠ 0 ∧ digit c = true))
      (fun k => nm.size - k) 0 ⟨rfl, Nat.zero_le _, rfl, fun j b h => by omega⟩ (by exact sub_of ⟨rfl, rfl, rfl, rfl, trivial⟩) ?_
    rintro k D' wr ⟨rfl, hk, rfl, hall⟩
    refine zst ?_
    by_cases hlt : k < nm.size
    · rw [show decide ((k : Int) < (nm.size : Int)) = true by simpa using hlt]
      have hc := List.getElem?_eq_getElem (show k < nm.toList.length by omega)
      generalize nm.toList[k] = c at hc
      refine zst ?_
      refine WU.yld rfl rfl rfl (yld_index_str rfl rfl hc) ?_
      refine WU.yld rfl rfl rfl (yld_or rfl rfl) ?_
      rw [show IntKind.u8.wrap (BitVec.ofInt IntKind.u8.bits (c.toNat : Int) ||| BitVec.ofInt IntKind.u8.bits 32).toNat = or32 c from rfl]
      (repeat ((fail_if_success guard_target =~ gW (.seq (.region 7 _ _) _)); (fail_if_success guard_target =~ gW (.seq (.seq (.region 7 _ _) _) _)); refine zs1 ?_))
      refine W.cut [(37, .bool ((decide (or32 c < 97) || decide (or32 c > 122)) && (((k : Int) == 0) || (decide ((c.toNat : Int) < 48) || decide ((c.toNat : Int) > 57))))), (9, .int .i64 k), (8, .int .i64 nm.size), (2, .bool false), (0, .string nm)] ?_ ?_
      · refine zst ?_
        cases A1 : decide (or32 c < 97)
        · refine zst ?_
          cases A2 : decide (or32 c > 122)
          · refine zst ?_
            exact ⟨rfl, rfl, rfl, rfl, rfl, rfl, rfl, trivial⟩
          · refine zst ?_
            cases A3 : ((k : Int) == 0)
            · refine zst ?_
              refine WU.yld rfl rfl rfl (yld_index_str rfl rfl hc) ?_
              refine zst ?_
              cases A4 : decide ((c.toNat : Int) < 48)
              · refine zst ?_
                refine WU.yld rfl rfl rfl (yld_index_str rfl rfl hc) ?_
                refine zst ?_
                exact ⟨rfl, rfl, rfl, rfl, rfl, rfl, rfl, trivial⟩
              · refine zst ?_
                exact ⟨rfl, rfl, rfl, rfl, rfl, rfl, rfl, trivial⟩
            · refine zst ?_
              exact ⟨rfl, rfl, rfl, rfl, rfl, rfl, rfl, trivial⟩
        · refine zst ?_
          cases A3 : ((k : Int) == 0)
          · refine zst ?_
            refine WU.yld rfl rfl rfl (yld_index_str rfl rfl hc) ?_
            refine zst ?_
            cases A4 : decide ((c.toNat : Int) < 48)
            · refine zst ?_
              refine WU.yld rfl rfl rfl (yld_index_str rfl rfl hc) ?_
              refine zst ?_
              exact ⟨rfl, rfl, rfl, rfl, rfl, rfl, rfl, trivial⟩
            · refine zst ?_
              exact ⟨rfl, rfl, rfl, rfl, rfl, rfl, rfl, trivial⟩
          · refine zst ?_
            exact ⟨rfl, rfl, rfl, rfl, rfl, rfl, rfl, trivial⟩
      cases hE : ((decide (or32 c < 97) || decide (or32 c > 122)) && (((k : Int) == 0) || (decide ((c.toNat : Int) < 48) || decide ((c.toNat : Int) > 57))))
      · refine zst ?_
        exact ⟨k + 1, by omega, ⟨rfl, by omega, rfl, fun j c' hj hc' => by
          by_cases hjk : j = k
          · subst hjk
            rw [hc] at hc'
            cases hc'
            have ho := or32_eq c
            simp only [Bool.and_eq_false_imp, Bool.or_eq_true, decide_eq_true_eq, Bool.or_eq_false_iff, decide_eq_false_iff_not, beq_eq_false_iff_ne] at hE
            by_cases hL : letter c = true
            · exact .inl hL
            · have hL' : or32 c < 97 ∨ or32 c > 122 := by
                unfold letter at hL
                simp only [Bool.and_eq_true, decide_eq_true_eq] at hL
                omega
              have h2 := hE hL'
              refine .inr ⟨by omega, ?_⟩
              unfold digit
              simp only [Bool.and_eq_true, decide_eq_true_eq]
              omega
          · exact hall j c' (by omega) hc'⟩, sub_of ⟨rfl, rfl, rfl, rfl, trivial⟩⟩
      · refine zst ?_
        exact fin1 (.inl rfl) rfl rfl ⟨false, rfl, fun h => Bool.noConfusion h, rfl⟩
    · rw [show decide ((k : Int) < (nm.size : Int)) = false by simpa using hlt]
      refine zst ?_
      refine fin1 (.inl rfl) rfl rfl ⟨_, rfl, fun h => ⟨?_, .inr fun j c hc => hall j c (by have := (List.getElem?_eq_some_iff.1 hc).1; omega) hc⟩, rfl⟩
      rw [E0_list] at h
      simpa using h
  · refine zst ?_
    refine fin1 (.inl rfl) rfl rfl ⟨true, rfl, fun _ => ⟨?_, .inl (by simpa using h0)⟩, rfl⟩
    rw [show nm.toList = us by simpa using h0]; simp [us]
end Go.Proofs.YtelmnkfdpnkpoaaGreatDoor
namespace Go.Kd
/-- a slice of strings -/
structure StrV (w : World) (p : Nat → Prop) (v : Value) (l : List ByteArray) : Prop where
  el : ∃ a cp f, v = .slice a l.length cp ∧ l.length ≤ cp ∧ SlC w p 1 a l.length f ∧ ∀ (i : Nat) s, l[i]? = some s → f i = [.string s]
theorem StrV.ext {w w' : World} (x : Ext w w') {p : Nat → Prop} {v : Value} {l : List ByteArray} (h : StrV w p v l) : StrV w' p v l := by
  obtain ⟨a, cp, f, h1, h0, h2, h3⟩ := h
  exact ⟨a, cp, f, h1, h0, h2.ext x, h3⟩
theorem StrV.mono {w : World} {p q : Nat → Prop} (hq : ∀ b, p b → q b) {v : Value} {l : List ByteArray} (h : StrV w p v l) : StrV w q v l := by
  obtain ⟨a, cp, f, h1, h0, h2, h3⟩ := h
  exact ⟨a, cp, f, h1, h0, h2.mono hq, h3⟩
theorem StrV.shape {w : World} {p : Nat → Prop} {v : Value} {l : List ByteArray} (h : StrV w p v l) : ∃ a cp, v = .slice a l.length cp ∧ l.length ≤ cp := by
  obtain ⟨a, cp, f, h1, h0, _⟩ := h; exact ⟨a, cp, h1, h0⟩
theorem StrV.cell {w : World} {p : Nat → Prop} {a : Option Addr} {n cp : Nat} {l : List ByteArray} (h : StrV w p (.slice a n cp) l) {i : Nat} {s : ByteArray} (hs : l[i]? = some s) : ∃ b o, a = some ⟨b, o, none⟩ ∧ p b ∧ w.cell? ⟨b, o + i * 1, none⟩ = some (.string s) := by
  obtain ⟨a', cp', f, h0, _, h1, h2⟩ := h
  cases h0
  have hlt : i < l.length := (List.getElem?_eq_some_iff.1 hs).1
  obtain ⟨b, o, h3, h4, h5⟩ := h1 i hlt
  rw [h2 i s hs] at h5
  exact ⟨b, o, h3, h4, h5 0 _ rfl⟩

/-- one more cell -/
theorem stp_append_cell {P : Program} {e : Env} {d : Option Tmp} {ty t : TypeId} {pos : String} {aft : Array Edge} {g : Option (Nat × Bool)} {x y : Operand} {w : World} {el : Nat} {z : Value} [hu : Und P t (.slice el)] [hz : Zro P el [z]] [hi : Inf P el 1] [hb : Byt P el] {base : Nat} {v : Value} {ls : List (List Value)} {b c' : Nat} {u : Value}
    (hx : ev e x = some v) (hy : ev e y = some (.slice (some ⟨b, 0, none⟩) 1 c')) (ho : Own w base el 1 v ls) (hc : w.cell? ⟨b, 0, none⟩ = some u) (h1 : u.oneCell' = true) (hn : ls.length ≤ 1073741824) (hbase : base ≤ w.heap.size) :
    Stp P e ⟨d, .call ⟨.builtin .append, #[x, y], #[t, t]⟩, ty, pos, aft, g⟩ w (fun v' w' => Own w' base el 1 v' (ls ++ [[u]]) ∧ App w w' v ∧ (∀ g, v'.ownBlock = some g → v.ownBlock = some g ∨ g = w.heap.size)) :=
  stp_append1 (sz := 1) (zs := [z]) hx hy ho (fun j v' hv => by
    match j with
    | 0 => simp at hv; subst hv; exact hc
    | j + 1 => simp at hv) rfl rfl (by decide) (fun u' hu' => by simp at hu'; subst hu'; exact h1) hn hbase
theorem Own.strs {w : World} {base el : Nat} {v : Value} {l : List ByteArray} (h : Own w base el 1 v (l.map fun s => [.string s])) : StrV w (fun b => v.ownBlock = some b) v l := by
  obtain ⟨a, cp, h1, h2, h3⟩ := h.shape
  simp only [List.length_map] at h1 h2 h3
  exact ⟨a, cp, _, h1, h2, h3, fun i s hs => by
    have hlt : i < l.length := (List.getElem?_eq_some_iff.1 hs).1
    have : l[i] = s := by rw [List.getElem?_eq_getElem hlt] at hs; exact Option.some.inj hs
    simp [List.getD, hlt, this]⟩
end Go.Kd
namespace Go.Proofs.YtelmnkfdpnkpoaaGreatDoor
open Go Go.Kd
set_option maxRecDepth 100000

def tnames (l : List Ty) : List ByteArray := l.map fun t => t.name
theorem tnames_list (l : List Ty) : (tnames l).map ByteArray.toList = names l := by simp [tnames, names]

theorem c_namesOf (l : List Ty) (a : Option Addr) (cp : Nat) (w : World) (p : Nat → Prop) (ht : TysV w p a cp l) (hln : l.length ≤ 1073741824) :
    Calls Tryz.prog 60 #[.slice a l.length cp] w (Ret fun r w' => StrV w' (fun b => w.heap.size ≤ b ∧ b < w'.heap.size) r (tnames l) ∧ Own w' w.heap.size 9 1 r ((tnames l).map fun s => [.string s]) ∧ Ext w w') := by
  refine W.enter (args := [.slice a l.length cp]) Tryz.func60 rfl Tryz.ntmps60 rfl rfl ?_
  refine zst ?_
  refine W.loop (σ := Nat × Value) (fun (k, v) => [(8, .int .i64 k), (7, .int .i64 l.length), (6, .slice a l.length cp), (3, v)])
    (fun (k, v) D' wk => D' = [] ∧ k ≤ l.length ∧ Ext w wk ∧ Own wk w.heap.size 9 1 v ((tnames (l.take k)).map fun s => [.string s]))
    (fun (k, _) => l.length - k) (0, .slice none 0 0) ⟨rfl, Nat.zero_le _, Ext.rfl' _, Own.nil ..⟩ (by exact sub_of ⟨rfl, rfl, rfl, rfl, trivial⟩) ?_
  rintro ⟨k, v⟩ D' wr ⟨rfl, hk, xr, ho⟩
  have hsz := xr.size
  refine zst ?_
  by_cases hlt : k < l.length
  · rw [show decide ((k : Int) < (l.length : Int)) = true by simpa using hlt]
    have he := List.getElem?_eq_getElem hlt
    have htk : (tnames (l.take (k + 1))).map (fun s => [Value.string s]) = (tnames (l.take k)).map (fun s => [Value.string s]) ++ [[.string l[k].name]] := by
      rw [List.take_add_one, he]; simp only [tnames, List.map_append, Option.toList, List.map_cons, List.map_nil]
    generalize l[k] = e at he htk
    obtain ⟨b, o, a3, c3, rfl, hpb, hc, hte⟩ := ht.next he
    have hc' : Cells wr b (o + k * 8) (tyc e a3 c3) := hc.ext xr
    refine zst ?_
    refine WU.yld rfl rfl rfl (yld_load_cells rfl hc') ?_
    refine WU.stp rfl rfl rfl stp_alloc ?_
    rintro _ w3 ⟨b3, rfl, n3⟩
    refine WU.stp0 rfl rfl (stp_store_whole rfl rfl rfl rfl) ?_
    rintro _ w4 u4
    have x4 : Ext wr w4 := (u4.ofNew n3).ext
    have i4 : Has w4 b3 _ := u4.has
    have s4 := x4.size
    clear u4 n3
    refine zst ?_
    refine WU.stp rfl rfl rfl (stp_buildSlice rfl rfl rfl rfl rfl) ?_
    rintro _ w5 ⟨b5, rfl, n5⟩
    refine WU.stp rfl rfl rfl (stp_append_cell rfl rfl (ho.ext (x4.trans n5.ext)) (cell_of n5.has rfl) rfl (by simp [tnames]; omega) (by have := n5.ext.size; omega)) ?_
    rintro v6 w6 ⟨h1, h2, h3⟩
    refine zst ?_
    have x6 := h2.ext (ho.ext (x4.trans n5.ext)) (xr.trans (x4.trans n5.ext)) (Nat.le_refl _)
    exact ⟨(k + 1, v6), by show l.length - (k + 1) < l.length - k; omega, ⟨rfl, by omega, x6, by rw [htk]; exact h1⟩, sub_of ⟨rfl, rfl, rfl, rfl, trivial⟩⟩
  · rw [show decide ((k : Int) < (l.length : Int)) = false by simpa using hlt]
    refine zst ?_
    have : l.take k = l := List.take_of_length_le (by omega)
    rw [this] at ho
    have hl := ho.lt
    exact fin1 (.inl rfl) rfl rfl ⟨(ho.strs).mono fun b hb => hl b hb, ho, xr⟩

theorem c_unnamed (l : List Ty) (a : Option Addr) (cp : Nat) (w : World) (p : Nat → Prop) (ht : TysV w p a cp l) (hln : l.length ≤ 1073741824) :
    Calls Tryz.prog 61 #[.slice a l.length cp] w (Ret fun r w' => ∃ b, r = .bool b ∧ (b = true → unnamedT l) ∧ Ext w w') := by
  refine W.enter (args := [.slice a l.length cp]) Tryz.func61 rfl Tryz.ntmps61 rfl rfl ?_
  refine zst ?_
  refine W.loop (σ := Nat) (fun k => [(7, .int .i64 k), (6, .int .i64 l.length), (5, .slice a l.length cp), (2, .bool false)])
    (fun k D' wk => D' = [] ∧ k ≤ l.length ∧ Ext w wk ∧ ∀ (j : Nat) e, j < k → l[j]? = some e → e.name.toList = [])
    (fun k => l.length - k) 0 ⟨rfl, Nat.zero_le _, Ext.rfl' _, fun j e h => by omega⟩ (by exact sub_of ⟨rfl, rfl, rfl, rfl, trivial⟩) ?_
  rintro k D' wr ⟨rfl, hk, xr, hall⟩
  refine zst ?_
  by_cases hlt : k < l.length
  · rw [show decide ((k : Int) < (l.length : Int)) = true by simpa using hlt]
    have he := List.getElem?_eq_getElem hlt
    generalize l[k] = e at he
    obtain ⟨b, o, a3, c3, rfl, hpb, hc, hte⟩ := ht.next he
    have hc' : Cells wr b (o + k * 8) (tyc e a3 c3) := hc.ext xr
    refine zst ?_
    refine WU.yld rfl rfl rfl (yld_load_cells rfl hc') ?_
    refine WU.stp rfl rfl rfl stp_alloc ?_
    rintro _ w3 ⟨b3, rfl, n3⟩
    refine WU.stp0 rfl rfl (stp_store_whole rfl rfl rfl rfl) ?_
    rintro _ w4 u4
    have x4 : Ext wr w4 := (u4.ofNew n3).ext
    have i4 : Has w4 b3 _ := u4.has
    clear u4 n3
    refine zst ?_
    rw [E0_list]
    cases hn : (e.name.toList == [])
    · refine zst ?_
      exact fin1 (.inl rfl) rfl rfl ⟨false, rfl, fun h => Bool.noConfusion h, xr.trans x4⟩
    · refine zst ?_
      exact ⟨k + 1, by omega, ⟨rfl, by omega, xr.trans x4, fun j e' hj he' => by
        by_cases hjk : j = k
        · subst hjk; rw [he] at he'; cases he'; simpa using hn
        · exact hall j e' (by omega) he'⟩, sub_of ⟨rfl, rfl, rfl, rfl, trivial⟩⟩
  · rw [show decide ((k : Int) < (l.length : Int)) = false by simpa using hlt]
    refine zst ?_
    refine fin1 (.inl rfl) rfl rfl ⟨true, rfl, fun _ e he => ?_, xr⟩
    obtain ⟨j, hj⟩ := List.getElem?_of_mem he
    exact hall j e (by have := (List.getElem?_eq_some_iff.1 hj).1; omega) hj

theorem c_unique (l : List ByteArray) (v : Value) (w : World) (p : Nat → Prop) (hv : StrV w p v l) (hln : l.length ≤ 1073741824) (hs : ∀ s ∈ l, s.size ≤ 9223372036854775807) :
    Calls Tryz.prog 59 #[v] w (Ret fun r w' => ∃ b, r = .bool b ∧ (b = true → Uniq (l.map ByteArray.toList)) ∧ w = w') := by
  obtain ⟨a, cp, rfl, hcp⟩ := hv.shape
  refine W.enter (args := [.slice a l.length cp]) Tryz.func59 rfl Tryz.ntmps59 rfl rfl ?_
  refine zst ?_
  refine W.loop (σ := Nat) (fun k => [(9, .int .i64 k), (8, .int .i64 l.length), (7, .slice a l.length cp), (2, .bool false), (0, .slice a l.length cp)])
    (fun k D' wk => D' = [] ∧ k ≤ l.length ∧ w = wk ∧ (∀ (j : Nat) s, j < k → l[j]? = some s → Ident s.toList) ∧ ∀ (i j : Nat) s s', i < j → j < k → l[i]? = some s → l[j]? = some s' → s.toList = s'.toList → s'.toList = us)
    (fun k => l.length - k) 0 ⟨rfl, Nat.zero_le _, rfl, fun j e h => by omega, fun i j s s' h1 h2 => by omega⟩ (by exact sub_of ⟨rfl, rfl, rfl, rfl, rfl, trivial⟩) ?_
  rintro k D' wr ⟨rfl, hk, rfl, hall, hun⟩
  refine zst ?_
  by_cases hlt : k < l.length
  · rw [show decide ((k : Int) < (l.length : Int)) = true by simpa using hlt]
    have he := List.getElem?_eq_getElem hlt
    have hms := hs l[k] (List.getElem_mem hlt)
    generalize l[k] = s at he hms
    obtain ⟨b, o, rfl, hpb, hc⟩ := hv.cell he
    refine zst ?_
    refine WU.yld rfl rfl rfl (yld_load_c rfl hc) ?_
    refine zst ?_
    refine WU.stp rfl rfl rfl (stp_call rfl (c_isIdentifier s w hms)) ?_
    rintro _ w2 ⟨bi, rfl, hbi, rfl⟩
    cases bi
    · refine zst ?_
      exact fin1 (.inl rfl) rfl rfl ⟨false, rfl, fun h => Bool.noConfusion h, rfl⟩
    · refine zst ?_
      refine W.loop (σ := Nat) (fun m => [(21, .int .i64 m), (20, .int .i64 k), (19, .slice (some ⟨b, o, none⟩) k cp), (4, .string s), (9, .int .i64 k), (8, .int .i64 l.length), (7, .slice (some ⟨b, o, none⟩) l.length cp), (2, .bool false), (0, .slice (some ⟨b, o, none⟩) l.length cp)])
        (fun m D' wk => D' = [] ∧ m ≤ k ∧ w = wk ∧ ∀ (j : Nat) s', j < m → l[j]? = some s' → s'.toList = s.toList → s.toList = us)
        (fun m => k - m) 0 ⟨rfl, Nat.zero_le _, rfl, fun j e h => by omega⟩ (by exact sub_of ⟨rfl, rfl, rfl, rfl, rfl, rfl, rfl, rfl, rfl, trivial⟩) ?_
      rintro m D' wr ⟨rfl, hm, rfl, hall2⟩
      refine zst ?_
      by_cases hmt : m < k
      · rw [show decide ((m : Int) < (k : Int)) = true by simpa using hmt]
        have he2 := List.getElem?_eq_getElem (show m < l.length by omega)
        generalize l[m] = s2 at he2
        obtain ⟨b', o', hb', _, hc2⟩ := hv.cell he2
        cases hb'
        refine zst ?_
        refine WU.yld rfl rfl rfl (yld_load_c rfl hc2) ?_
        refine zst ?_
        cases heq : (s.toList == s2.toList)
        · refine zst ?_
          exact ⟨m + 1, by omega, ⟨rfl, by omega, rfl, fun j s' hj hs' h => by
            by_cases hjk : j = m
            · subst hjk; rw [he2] at hs'; cases hs'; simp [h] at heq
            · exact hall2 j s' (by omega) hs' h⟩, sub_of ⟨rfl, rfl, rfl, rfl, rfl, rfl, rfl, rfl, rfl, trivial⟩⟩
        · refine zst ?_
          rw [us_list]
          cases hus : (s.toList == us)
          · refine zst ?_
            exact fin1 (.inl rfl) rfl rfl ⟨false, rfl, fun h => Bool.noConfusion h, rfl⟩
          · refine zst ?_
            exact ⟨m + 1, by omega, ⟨rfl, by omega, rfl, fun j s' _ _ _ => by simpa using hus⟩, sub_of ⟨rfl, rfl, rfl, rfl, rfl, rfl, rfl, rfl, rfl, trivial⟩⟩
      · rw [show decide ((m : Int) < (k : Int)) = false by simpa using hmt]
        refine zst ?_
        have hmk : m = k := by omega
        subst hmk
        exact ⟨m + 1, by omega, ⟨rfl, by omega, rfl, fun j s' hj hs' => by
          by_cases hjk : j = m
          · subst hjk; rw [he] at hs'; cases hs'; exact hbi rfl
          · exact hall j s' (by omega) hs', fun i j s1 s' hij hj h1 h2 h3 => by
          by_cases hjk : j = m
          · subst hjk; rw [he] at h2; cases h2; exact hall2 i s1 hij h1 h3
          · exact hun i j s1 s' hij (by omega) h1 h2 h3⟩, sub_of ⟨rfl, rfl, rfl, rfl, rfl, trivial⟩⟩
  · rw [show decide ((k : Int) < (l.length : Int)) = false by simpa using hlt]
    refine zst ?_
    have hkl : k = l.length := by omega
    refine fin1 (.inl rfl) rfl rfl ⟨true, rfl, fun _ => ⟨fun i s hs' => ?_, fun i j s hij h1 h2 => ?_⟩, rfl⟩
    · rw [List.getElem?_map] at hs'
      cases hl : l[i]? with
      | none => rw [hl] at hs'; cases hs'
      | some u =>
        rw [hl] at hs'
        cases hs'
        exact hall i u (by have := (List.getElem?_eq_some_iff.1 hl).1; omega) hl
    · rw [List.getElem?_map] at h1 h2
      cases hl : l[i]? with
      | none => rw [hl] at h1; cases h1
      | some u =>
        cases hl2 : l[j]? with
        | none => rw [hl2] at h2; cases h2
        | some u2 =>
          rw [hl] at h1
          rw [hl2] at h2
          simp only [Option.map_some, Option.some.injEq] at h1 h2
          have := hun i j u u2 hij (by have := (List.getElem?_eq_some_iff.1 hl2).1; omega) hl hl2 (h1.trans h2.symm)
          rw [← h2]; exact this
end Go.Proofs.YtelmnkfdpnkpoaaGreatDoor
namespace Go.Kd
/-! A walk in parts. -/
def headA (r : Nat) : Code → Bool
  | .region i _ _ => Nat.beq i r
  | .seq a _ => headA r a
  | _ => false
/-- what lies from region r on -/
def dropA (r : Nat) : Code → Option Code
  | .seq a b => match headA r a with
    | true => some (.seq a b)
    | false => dropA r b
  | _ => none
def bodyA (f : Func) : Code := f.body.getD .skip
theorem W.useA {P : Program} {n k : Nat} {Q : Post} {D : List Deferred} {e e' : Env} {w : World} {b c' : Code} (h : ∃ c, dropA k b = some c ∧ W P n c Q D e' w) (hb : dropA k b = some c') (hs : subs e e') : W P n c' Q D e w := by
  obtain ⟨c, h1, h2⟩ := h
  cases h1.symm.trans hb
  exact h2.sub (sub_of hs)
end Go.Kd
namespace Go.Proofs.YtelmnkfdpnkpoaaGreatDoor
open Go Go.Kd
set_option maxRecDepth 100000

theorem TysV.take {w : World} {p : Nat → Prop} {a : Option Addr} {cp : Nat} {l : List Ty} (h : TysV w p a cp l) (c : Nat) : TysV w p a cp (l.take c) := by
  obtain ⟨h0, f, h1, h2⟩ := h
  refine ⟨by simp; omega, f, h1.take (by simp; omega), fun i e he => ?_⟩
  rw [List.getElem?_take] at he
  split at he
  · exact h2 i e he
  · cases he
theorem TysV.past {w : World} {p : Nat → Prop} {a : Option Addr} {cp : Nat} {l : List Ty} (h : TysV w p a cp l) (c : Nat) : TysV w p (past a c cp 8) (cp - c) (l.drop c) := by
  obtain ⟨h0, f, h1, h2⟩ := h
  refine ⟨by simp; omega, fun i => f (c + i), by rw [List.length_drop]; exact h1.past h0, fun i e he => h2 (c + i) e (by rw [← List.getElem?_drop]; exact he)⟩

def basicB : List ByteArray := basicNm.map fun l => ⟨l.toArray⟩
theorem c_basicName (n : Int) (w : World) (h0 : 0 ≤ n) (h1 : n < 22) :
    Calls Tryz.prog 128 #[.int .i64 n] w (Ret fun r w' => ∃ s : ByteArray, r = .string s ∧ s.toList = basicNm.getD n.toNat [] ∧ w = w') := by
  refine W.enter (args := [.int .i64 n]) Tryz.func128 rfl Tryz.ntmps128 rfl rfl ?_
  refine zst ?_
  refine WU.yld rfl rfl rfl (yld_buildArr (z := List.replicate 22 (.string eB)) (r := basicB.map fun s => .string s) rfl rfl) ?_
  refine zst ?_
  have hlt : n.toNat < basicB.length := by have : basicB.length = 22 := rfl; omega
  refine WU.yld rfl rfl rfl (yld_index_arr (v := .string basicB[n.toNat]) rfl rfl h0 (by omega) (by rw [List.getElem?_map, List.getElem?_eq_getElem hlt]; rfl)) ?_
  refine zst ?_
  refine fin1 (.inl rfl) rfl rfl ⟨_, rfl, ?_, rfl⟩
  have hlt' : n.toNat < basicNm.length := by have : basicNm.length = 22 := rfl; omega
  rw [Lib.toList_data, List.getD_eq_getElem?_getD, List.getElem?_eq_getElem hlt']
  simp [basicB]

theorem c_TypeName {D : List De} {t : Ty} (hG : Good D t) (a : Option Addr) (cp : Nat) (a1 : Option Addr) (c1 : Nat) (w : World) {p : Nat → Prop} (hd : DsV w p (.slice a D.length cp) D) :
    Calls Tryz.prog 82 #[.slice a D.length cp, .agg (tyc t a1 c1).toArray] w (Ret fun r w' => ∃ s : ByteArray, r = .string s ∧ s.toList = typeNm D t ∧ Ext w w') := by
  refine W.enter (args := [.slice a D.length cp, .agg (tyc t a1 c1).toArray]) Tryz.func82 rfl Tryz.ntmps82 rfl rfl ?_
  refine zst ?_
  refine WU.stp rfl rfl rfl (by first | exact stp_box rfl rfl | exact stp_box1 rfl rfl) ?_
  rintro _ w1 ⟨b1, rfl, n1⟩
  refine zst ?_
  unfold typeNm
  cases k1 : (t.kind == 1)
  · rw [if_neg (by simpa using k1)]
    refine zst ?_
    cases k0 : (t.kind == 0)
    · rw [if_neg (by simpa using k0)]
      refine zst ?_
      exact fin1 (.inl rfl) rfl rfl ⟨_, rfl, E0_list, n1.ext⟩
    · rw [if_pos (by simpa using k0)]
      have hk : t.kind = 0 := by simpa using k0
      obtain ⟨i, v, hi, hs⟩ := hG.sh
      have g0 := hs.shape.n0 (by rw [hk]; simp [limitN])
      have g1 := hs.shape.n1 (by rw [hk]; simp [limitN])
      rw [hk] at g1
      simp [limitN] at g1
      refine zst ?_
      refine WU.stp rfl rfl rfl (stp_call rfl (c_basicName t.n w1 g0 g1)) ?_
      rintro _ w2 ⟨s, rfl, hs', rfl⟩
      refine zst ?_
      exact fin1 (.inl rfl) rfl rfl ⟨_, rfl, hs', n1.ext⟩
  · rw [if_pos (by simpa using k1)]
    have hk : t.kind = 1 := by simpa using k1
    obtain ⟨e, he⟩ := hG.decl hk
    obtain ⟨g0, g1⟩ := hG.named hk
    obtain ⟨b, o, a3, c3, a4, c4, f, rfl, _, hc, hte, _⟩ := hd.next he
    have hc' : Cells w1 b (o + t.n.toNat * 12) (del e a3 c3 a4 c4) := hc.ext n1.ext
    refine zst ?_
    refine WU.yld rfl rfl rfl (yld_load_cellsI rfl hc' rfl) ?_
    refine zst ?_
    exact fin1 (.inl rfl) rfl rfl ⟨_, rfl, by rw [he], n1.ext⟩

theorem Good.len1 {D : List De} {t : Ty} (h : Good D t) (hk : elemsN t.kind = 1) : t.elems.length = 1 := by
  obtain ⟨i, v, hi, hs⟩ := h.sh
  have := hs.shape.len (by omega)
  omega

set_option maxHeartbeats 4000000 in
theorem c_mayEmbed {D : List De} (hD : OkD D) {t : Ty} (hG : Good D t) (a : Option Addr) (cp : Nat) (a1 : Option Addr) (c1 : Nat) (w : World) {p : Nat → Prop} (hp : ∀ b, p b → b < w.heap.size) (hd : DsV w p (.slice a D.length cp) D) (ht : TysV w p a1 c1 t.elems) :
    Calls Tryz.prog 58 #[.slice a D.length cp, .agg (tyc t a1 c1).toArray] w (Ret fun r w' => ∃ b, r = .bool b ∧ (b = true → ∃ e, MayEmb D t e) ∧ Ext w w') := by
  refine W.enter (args := [.slice a D.length cp, .agg (tyc t a1 c1).toArray]) Tryz.func58 rfl Tryz.ntmps58 rfl rfl ?_
  refine zst ?_
  refine WU.stp rfl rfl rfl (by first | exact stp_box rfl rfl | exact stp_box1 rfl rfl) ?_
  rintro _ w1 ⟨b1, rfl, n1⟩
  refine zst ?_
  refine WU.stp rfl rfl rfl stp_alloc ?_
  rintro _ w2 ⟨b2, rfl, n2⟩
  refine WU.stp0 rfl rfl (stp_store_whole rfl rfl rfl rfl) ?_
  rintro _ w3 u3
  have e1 := n1.num
  have s1 := n1.size
  have e2 := n2.num
  have s2 := n2.size
  have x3 : Ext w w3 := n1.ext.trans (u3.ofNew n2).ext
  have i1 : Has w3 b1 _ := u3.keep (n1.has.ext' n2.ext) (by omega)
  have i2 : Has w3 b2 _ := u3.has
  clear u3 n1 n2
  refine WU.nilk ?_
  have main : ∀ (w4 : World) (e : Ty) (ae : Option Addr) (ce : Nat), Ext w w4 → Has w4 b1 (.cells (tyc t a1 c1).toArray 26) → Has w4 b2 (.cells (tyc e ae ce).toArray 26) → Good D e → TysV w p ae ce e.elems →
      ((t.kind = 2 ∧ t.elems[0]? = some e) ∨ (t.kind ≠ 2 ∧ e = t)) →
      ∃ c, dropA 4 (bodyA Tryz.f58) = some c ∧ W Tryz.prog 54 c (fin Tryz.prog Tryz.f58 (Ret fun r w' => ∃ b, r = .bool b ∧ (b = true → ∃ e, MayEmb D t e) ∧ Ext w w')) [] [(5, .pointer (some ⟨b2, 0, none⟩)), (4, .bool false), (3, .pointer (some ⟨b1, 0, none⟩)), (0, .slice a D.length cp)] w4 := by
    intro w4 e ae ce x4 i1 i2 hGe hte hel
    refine ⟨_, rfl, ?_⟩
    refine zst ?_
    have sz4 := x4.size
    refine WU.stp rfl rfl rfl (stp_call rfl (c_Underlying hD hGe a cp ae ce w4 (fun b hb => by have := hp b hb; omega) (hd.ext x4) (hte.ext x4))) ?_
    rintro _ w5 ⟨a5, c5, rfl, ht5, x5⟩
    have hGu := hGe.under hD
    obtain ⟨u, hu⟩ : ∃ u, underT D e = u := ⟨_, rfl⟩
    rw [hu]
    have j1 : Has w5 b1 _ := i1.ext' x5
    have j2 : Has w5 b2 _ := i2.ext' x5
    refine WU.stp rfl rfl rfl stp_alloc ?_
    rintro _ w6 ⟨b6, rfl, n6⟩
    refine WU.stp0 rfl rfl (stp_store_whole rfl rfl rfl rfl) ?_
    rintro _ w7 u7
    have x7 : Ext w5 w7 := (u7.ofNew n6).ext
    have k1 : Has w7 b1 _ := j1.ext' x7
    have k2 : Has w7 b2 _ := j2.ext' x7
    have k6 : Has w7 b6 _ := u7.has
    clear u7 n6 j1 j2
    refine zst ?_
    have xf : ∀ w', Ext w7 w' → ∃ b, Value.bool false = .bool b ∧ (b = true → ∃ e, MayEmb D t e) ∧ Ext w w' := fun w' x => ⟨false, rfl, fun h => Bool.noConfusion h, x4.trans (x5.trans (x7.trans x))⟩
    refine W.regD [(0, .q), (1, .q), (2, .q), (3, .q), (4, .q), (5, .q), (6, .q), (7, .q), (8, .q), (9, .q), (10, .q), (11, .q), (12, .q), (13, .l), (14, .q), (15, .q), (16, .q), (17, .q), (18, .q), (19, .q), (20, .q), (21, .q), (22, .q), (23, .l), (24, .q), (25, .q), (26, .q), (27, .q), (28, .q), (29, .q), (30, .q), (31, .q), (32, .q), (33, .q), (34, .q), (35, .q), (36, .q)] (by kernel_rfl) (by kernel_rfl) rfl ?_
    intro w8 x8 _
    have l1 : Has w8 b1 _ := k1.ext' x8
    have l2 : Has w8 b2 _ := k2.ext' x8
    have l6 : Has w8 b6 _ := k6.ext' x8
    refine zsd ?_
    cases g1 : (e.kind == 1)
    · refine zsd ?_
      cases g0 : (e.kind == 0)
      · refine zsd ?_
        refine zst ?_
        exact fin1 (.inl rfl) rfl rfl (xf _ x8)
      · refine zsd ?_
        refine WD.stp rfl rfl rfl rfl (stp_call rfl (c_TypeName hGe a cp ae ce w8 (hd.ext (x4.trans (x5.trans (x7.trans x8)))))) ?_
        rintro _ w9 ⟨sn, rfl, hsn, x9⟩
        refine ⟨by first | assumption | exact Ext.rfl' _ | infer_instance, ?_⟩
        have m6 : Has w9 b6 _ := l6.ext' x9
        have m1 : Has w9 b1 _ := l1.ext' x9
        refine zsd ?_
        cases q1 : (t.name.toList == sn.toList)
        · refine zsd ?_
          refine zst ?_
          exact fin1 (.inl rfl) rfl rfl (xf _ (x8.trans x9))
        · refine zsd ?_
          cases q2 : (u.kind != 2)
          · refine zsd ?_
            refine zst ?_
            exact fin1 (.inl rfl) rfl rfl (xf _ (x8.trans x9))
          · refine zsd ?_
            refine WD.stp rfl rfl rfl rfl (stp_call rfl (c_isUnsafePointer u a5 c5 w9)) ?_
            rintro _ w10 ⟨rfl, x10⟩
            refine ⟨by first | assumption | exact Ext.rfl' _ | infer_instance, ?_⟩
            have o6 : Has w10 b6 _ := m6.ext' x10
            have o1 : Has w10 b1 _ := m1.ext' x10
            cases q3 : (u.kind == 0 && u.n == 17)
            · refine zsd ?_
              have hem : (t.kind = 2 → u.kind ≠ 9) → ∃ e, MayEmb D t e := fun h9 => ⟨e, hel, .inl (by simpa using g0), by rw [show t.name.toList = sn.toList by simpa using q1]; exact hsn, by rw [hu]; simpa using q2, by rw [hu]; intro ⟨z1, z2⟩; simp [z1, z2] at q3, fun h => by rw [hu]; exact h9 h⟩
              cases q4 : (t.kind != 2)
              · refine zsd ?_
                refine zst ?_
                exact fin1 (.inl rfl) rfl rfl ⟨_, rfl, fun h => hem fun _ => by simpa using h, x4.trans (x5.trans (x7.trans (x8.trans (x9.trans x10))))⟩
              · refine zsd ?_
                refine zst ?_
                exact fin1 (.inl rfl) rfl rfl ⟨_, rfl, fun h => hem fun h2 => by simp [h2] at q4, x4.trans (x5.trans (x7.trans (x8.trans (x9.trans x10))))⟩
            · refine zsd ?_
              refine zst ?_
              exact fin1 (.inl rfl) rfl rfl (xf _ (x8.trans (x9.trans x10)))
    · refine zsd ?_
      refine WD.stp rfl rfl rfl rfl (stp_call rfl (c_TypeName hGe a cp ae ce w8 (hd.ext (x4.trans (x5.trans (x7.trans x8)))))) ?_
      rintro _ w9 ⟨sn, rfl, hsn, x9⟩
      refine ⟨by first | assumption | exact Ext.rfl' _ | infer_instance, ?_⟩
      have m6 : Has w9 b6 _ := l6.ext' x9
      have m1 : Has w9 b1 _ := l1.ext' x9
      refine zsd ?_
      cases q1 : (t.name.toList == sn.toList)
      · refine zsd ?_
        refine zst ?_
        exact fin1 (.inl rfl) rfl rfl (xf _ (x8.trans x9))
      · refine zsd ?_
        cases q2 : (u.kind != 2)
        · refine zsd ?_
          refine zst ?_
          exact fin1 (.inl rfl) rfl rfl (xf _ (x8.trans x9))
        · refine zsd ?_
          refine WD.stp rfl rfl rfl rfl (stp_call rfl (c_isUnsafePointer u a5 c5 w9)) ?_
          rintro _ w10 ⟨rfl, x10⟩
          refine ⟨by first | assumption | exact Ext.rfl' _ | infer_instance, ?_⟩
          have o6 : Has w10 b6 _ := m6.ext' x10
          have o1 : Has w10 b1 _ := m1.ext' x10
          cases q3 : (u.kind == 0 && u.n == 17)
          · refine zsd ?_
            have hem : (t.kind = 2 → u.kind ≠ 9) → ∃ e, MayEmb D t e := fun h9 => ⟨e, hel, .inr (by simpa using g1), by rw [show t.name.toList = sn.toList by simpa using q1]; exact hsn, by rw [hu]; simpa using q2, by rw [hu]; intro ⟨z1, z2⟩; simp [z1, z2] at q3, fun h => by rw [hu]; exact h9 h⟩
            cases q4 : (t.kind != 2)
            · refine zsd ?_
              refine zst ?_
              exact fin1 (.inl rfl) rfl rfl ⟨_, rfl, fun h => hem fun _ => by simpa using h, x4.trans (x5.trans (x7.trans (x8.trans (x9.trans x10))))⟩
            · refine zsd ?_
              refine zst ?_
              exact fin1 (.inl rfl) rfl rfl ⟨_, rfl, fun h => hem fun h2 => by simp [h2] at q4, x4.trans (x5.trans (x7.trans (x8.trans (x9.trans x10))))⟩
          · refine zsd ?_
            refine zst ?_
            exact fin1 (.inl rfl) rfl rfl (xf _ (x8.trans (x9.trans x10)))
  (repeat ((fail_if_success guard_target =~ gW (.seq (.region 4 _ _) _)); (fail_if_success guard_target =~ gW (.seq (.seq (.region 4 _ _) _) _)); refine zs1 ?_))
  cases k2 : (t.kind == 2)
  · (repeat ((fail_if_success guard_target =~ gW (.seq (.region 4 _ _) _)); (fail_if_success guard_target =~ gW (.seq (.seq (.region 4 _ _) _) _)); refine zs1 ?_))
    exact W.useA (main _ t a1 c1 x3 i1 i2 hG ht (.inr ⟨by simpa using k2, rfl⟩)) rfl ⟨rfl, rfl, rfl, rfl, trivial⟩
  · have hk : t.kind = 2 := by simpa using k2
    have hl := hG.len1 (by rw [hk]; rfl)
    have he := List.getElem?_eq_getElem (show 0 < t.elems.length by omega)
    generalize t.elems[0] = e at he
    obtain ⟨b, o, a3, c3, rfl, hpb, hc, hte⟩ := ht.next he
    have hc' : Cells w3 b (o + 0 * 8) (tyc e a3 c3) := hc.ext x3
    (repeat ((fail_if_success guard_target =~ gW (.seq (.region 4 _ _) _)); (fail_if_success guard_target =~ gW (.seq (.seq (.region 4 _ _) _) _)); refine zs1 ?_))
    refine WU.yld rfl rfl rfl (yld_load_cells rfl hc') ?_
    refine WU.stp0 rfl rfl (stp_store_whole rfl rfl rfl rfl) ?_
    rintro _ w4 u4
    (repeat ((fail_if_success guard_target =~ gW (.seq (.region 4 _ _) _)); (fail_if_success guard_target =~ gW (.seq (.seq (.region 4 _ _) _) _)); refine zs1 ?_))
    exact W.useA (main _ e a3 c3 (u4.ext x3 (by omega)) (u4.keep i1 (by omega)) u4.has (hG.el he) hte (.inl ⟨hk, he⟩)) rfl ⟨rfl, rfl, rfl, rfl, trivial⟩
end Go.Proofs.YtelmnkfdpnkpoaaGreatDoor

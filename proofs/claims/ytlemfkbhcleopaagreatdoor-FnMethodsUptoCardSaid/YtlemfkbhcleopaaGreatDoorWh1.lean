/- The walks and the plain laws, part 1. -/
import Derived.Test.YtlemfkbhcleopaaGreatDoorY5
import Derived.Test.YtlemfkbhcleopaaGreatDoorY2
import Derived.Lib.Strings
import Derived.Test.YtlemfkbhcleopaaGreatDoorY4
namespace Go.Proofs.YtlemfkbhcleopaaGreatDoor
open Go Go.Kd
set_option maxRecDepth 100000
instance : Und Tryz.prog 48 (.slice 51) := ⟨by kernel_rfl⟩
instance : Agt Tryz.prog 51 3 := agt_of (by kernel_rfl)
instance : Fld Tryz.prog 51 0 0 := fld_of (by kernel_rfl)
instance : Fld Tryz.prog 51 1 1 := fld_of (by kernel_rfl)
instance : Fld Tryz.prog 51 2 2 := fld_of (by kernel_rfl)
instance : Plc Tryz.prog 51 [(0, 1), (1, 1), (2, 1)] := plc_of (by kernel_rfl)
instance : Inf Tryz.prog 51 3 := inf_of (by kernel_rfl)
instance : Zro Tryz.prog 51 [(.string ⟨#[]⟩), (.int .i64 0), (.bool false)] := zro_of (v := (.agg #[(.string ⟨#[]⟩), (.int .i64 0), (.bool false)])) (by kernel_rfl) rfl
instance : PtrT Tryz.prog 79 := ptr_of (by kernel_rfl)
instance : Agt Tryz.prog 96 2 := agt_of (by kernel_rfl)
instance : Byt Tryz.prog 51 := byt_of (by kernel_rfl)
instance : Fun Tryz.prog 30 := fun_of (by kernel_rfl)
instance : Fun Tryz.prog 31 := fun_of (by kernel_rfl)
instance : Fun Tryz.prog 32 := fun_of (by kernel_rfl)
instance : Fun Tryz.prog 49 := fun_of (by kernel_rfl)
instance : Fun Tryz.prog 50 := fun_of (by kernel_rfl)
instance : Fun Tryz.prog 51 := fun_of (by kernel_rfl)
instance : Fun Tryz.prog 52 := fun_of (by kernel_rfl)
instance : Fun Tryz.prog 53 := fun_of (by kernel_rfl)
instance : Fun Tryz.prog 54 := fun_of (by kernel_rfl)
instance : Fun Tryz.prog 55 := fun_of (by kernel_rfl)
instance : Fun Tryz.prog 86 := fun_of (by kernel_rfl)
instance : Fun Tryz.prog 87 := fun_of (by kernel_rfl)
end Go.Proofs.YtlemfkbhcleopaaGreatDoor
namespace Go.Proofs.YtlemfkbhcleopaaGreatDoor
open Go Go.Kd
set_option maxRecDepth 100000

/-- an interface's type set, from its value -/
theorem RT.ifs {K : Cfg} {s : Gs} {w : World} {v : Value} {q : Ty} (ic : IC K s w) (h : RT K s w s.sl v q) (hi : isIf q) : ∃ b tb ms fb, v = .iface tPI (pt b) ∧ s.g b = some q ∧ Pl w b ∧ TSo K s w all' b tb q ms fb := by
  obtain ⟨b, h1, h2, h3⟩ := h.lit2 hi.lit
  rw [hi.dyn] at h1
  obtain ⟨tb, ms, fb, ht⟩ := ic.ts h3 hi
  exact ⟨b, tb, ms, fb, h1, h3, h2, ht⟩
/-- the interface that underlies a type, or nil -/
def FaceV (K : Cfg) (s : Gs) (w : World) (t : Ty) (r : Value) : Prop := (isIfaceT K.D t = false ∧ r = .pointer none) ∨ (isIfaceT K.D t = true ∧ ∃ b q, r = pt b ∧ isIf q ∧ underT K.D t = norm q ∧ RT K s w s.sl (.iface tPI (pt b)) q)
theorem c_face {K : Cfg} {s : Gs} {w : World} {bb : Nat} (h : Blt K s w bb) {p : Nat → Prop} {cs : List Value} {t : Ty} (ht : TyV w p cs t) (hp : ∀ b, p b → b < K.N ∧ b < w.heap.size) (hv : Shaped K.D K.D.length true t) (hlg : Legal K.D t) (hwt : wt t ≤ Big) :
    Calls Tryz.prog 49 #[pt bb, .agg cs.toArray] w (Ret fun r w' => ∃ s', s.gle s' ∧ Sta K 1 w w' ∧ Blt K s' w' bb ∧ FaceV K s' w' t r) := by
  obtain ⟨a, cp, rfl, hts⟩ := ht.tys
  refine W.enter (args := [pt bb, .agg (tyl t.kind t.n t.count t.vr (.slice a t.elems.length cp) t.name t.tag t.emb).toArray]) Tryz.func49 rfl Tryz.ntmps49 rfl rfl ?_
  refine zst ?_
  refine WU.stp rfl rfl rfl (by first | exact stp_box rfl rfl | exact stp_box1 rfl rfl) ?_
  rintro _ w1 ⟨b1, rfl, n1⟩
  have ib1 := n1.has
  refine zst ?_
  refine WU.stp rfl rfl rfl (stp_call rfl (c_of (h.ext n1.ext) (p := p) (cs := tyc t a cp) (t := t) ((TyV.of_tys hts).ext n1.ext) (fun b hb => ⟨(hp b hb).1, by have := (hp b hb).2; have := n1.ext.size; omega⟩) ⟨true, hv⟩ hlg hwt)) ?_
  rintro _ w2 ⟨s2, hg2, st2, hB2, rt2, T2, rb2, rfl⟩
  refine zst ?_
  refine WU.stp rfl rfl rfl (stp_und hB2.vd.sh hB2.dc hB2.er rt2 (rdy_good hv) rfl) ?_
  rintro _ _ ⟨rfl, q, rtq, hql, hqu, Tq, bq, rfl⟩
  have rtq' : RT K s2 w2 s2.sl (.iface Tq (pt bq)) q := rtq.mono fun d _ hd => hd.elim id id
  have st : Sta K 1 w w2 := (Sta.of_ext n1.ext).trans st2
  obtain ⟨_, hyv, _⟩ := rtq'.lit hql
  obtain rfl : Tq = dynT q := by cases hyv; rfl
  have hk : dynT q = tPI ↔ isIfaceT K.D t = true := by
    obtain ⟨k0, k9⟩ := rtq'.kinds
    rw [dynT_if hql k0 k9, isIf_norm, ← hqu]
    unfold isIfaceT
    simp
  cases hb : isIfaceT K.D t
  · have hT : Nat.beq (dynT q) tPI = false := by
      cases hq : Nat.beq (dynT q) tPI
      · rfl
      · exfalso
        rw [hk.1 (Nat.eq_of_beq_eq_true hq)] at hb
        cases hb
    refine zst ?_
    exact fin1 (.inl rfl) rfl rfl ⟨s2, hg2, st, hB2, .inl ⟨hb, rfl⟩⟩
  · have hif : isIf q := (dynT_if hql rtq'.kinds.1 rtq'.kinds.2).1 (hk.2 hb)
    rw [hk.2 hb] at rtq' ⊢
    refine zst ?_
    exact fin1 (.inl rfl) rfl rfl ⟨s2, hg2, st, hB2, .inr ⟨hb, _, q, rfl, hif, hqu, rtq'⟩⟩

theorem c_tsNum {w : World} {tb n c : Nat} {a : Option Addr} {v : Value} (h1 : Has w tb (.cells #[.bool false, .slice a n c, v, .bool false] tTS)) : Calls Tryz.prog 86 #[pt tb] w (Ret fun r w' => r = .int .i64 n ∧ w = w') := by
  refine W.enter (args := [pt tb]) Tryz.func86 rfl Tryz.ntmps86 rfl rfl ?_
  refine zst ?_
  exact fin1 (.inl rfl) rfl rfl ⟨rfl, rfl⟩
theorem c_tsMethod {w : World} {tb n c rb i : Nat} {v u : Value} (h1 : Has w tb (.cells #[.bool false, .slice (some ⟨rb, 0, none⟩) n c, v, .bool false] tTS)) (hi : i < n) (hc : w.cell? ⟨rb, 0 + i * 1, none⟩ = some u) : Calls Tryz.prog 87 #[pt tb, .int .i64 i] w (Ret fun r w' => r = u ∧ w = w') := by
  refine W.enter (args := [pt tb, .int .i64 i]) Tryz.func87 rfl Tryz.ntmps87 rfl rfl ?_
  refine zst ?_
  refine WU.yld rfl rfl rfl (yld_load_c rfl hc) ?_
  refine zst ?_
  exact fin1 (.inl rfl) rfl rfl ⟨rfl, rfl⟩
theorem c_NumMethods {K : Cfg} {s : Gs} {w : World} {p : Nat → Prop} {b tb : Nat} {t : Ty} {ms : List Mt} {fb : Nat → Nat} (h : TSo K s w p b tb t ms fb) : Calls Tryz.prog 50 #[pt b] w (Ret fun r w' => r = .int .i64 ms.length ∧ w = w') := by
  obtain ⟨a, c, v, h1, _, _⟩ := h.tsb
  refine W.enter (args := [pt b]) Tryz.func50 rfl Tryz.ntmps50 rfl rfl ?_
  refine zst ?_
  refine WU.stp rfl rfl rfl (stp_call rfl (c_typeSet_done b tb w h.ib)) ?_
  rintro _ _ ⟨rfl, rfl⟩
  refine zst ?_
  refine WU.stp rfl rfl rfl (stp_call rfl (c_tsNum h1)) ?_
  rintro _ _ ⟨rfl, rfl⟩
  refine zst ?_
  exact fin1 (.inl rfl) rfl rfl ⟨rfl, rfl⟩
theorem c_Method {K : Cfg} {s : Gs} {w : World} {p : Nat → Prop} {b tb : Nat} {t : Ty} {ms : List Mt} {fb : Nat → Nat} (h : TSo K s w p b tb t ms fb) {i : Nat} (hi : i < ms.length) : Calls Tryz.prog 51 #[pt b, .int .i64 i] w (Ret fun r w' => r = pt (fb i) ∧ w = w') := by
  obtain ⟨a, c, v, h1, _, hr⟩ := h.tsb
  obtain ⟨rb, rfl, _, hrc⟩ := hr.cell hi
  refine W.enter (args := [pt b, .int .i64 i]) Tryz.func51 rfl Tryz.ntmps51 rfl rfl ?_
  refine zst ?_
  refine WU.stp rfl rfl rfl (stp_call rfl (c_typeSet_done b tb w h.ib)) ?_
  rintro _ _ ⟨rfl, rfl⟩
  refine zst ?_
  refine WU.stp rfl rfl rfl (stp_call rfl (c_tsMethod h1 hi hrc)) ?_
  rintro _ _ ⟨rfl, rfl⟩
  refine zst ?_
  exact fin1 (.inl rfl) rfl rfl ⟨rfl, rfl⟩
theorem c_oName {w : World} {b : Nat} {pk : Value} {nm : ByteArray} {v : Value} (h : FuncV w b pk nm v) : Calls Tryz.prog 52 #[pt b] w (Ret fun r w' => r = .string nm ∧ w = w') := by
  have h' : Has w b (.cells #[.int .i64 0, pk, .string nm, v, .bool false, .bool false] 83) := h
  refine W.enter (args := [pt b]) Tryz.func52 rfl Tryz.ntmps52 rfl rfl ?_
  refine zst ?_
  exact fin1 (.inl rfl) rfl rfl ⟨rfl, rfl⟩
theorem c_oPkg {w : World} {b : Nat} {pk : Value} {nm : ByteArray} {v : Value} (h : FuncV w b pk nm v) : Calls Tryz.prog 54 #[pt b] w (Ret fun r w' => r = pk ∧ w = w') := by
  have h' : Has w b (.cells #[.int .i64 0, pk, .string nm, v, .bool false, .bool false] 83) := h
  refine W.enter (args := [pt b]) Tryz.func54 rfl Tryz.ntmps54 rfl rfl ?_
  refine zst ?_
  exact fin1 (.inl rfl) rfl rfl ⟨rfl, rfl⟩
theorem c_oType {w : World} {b : Nat} {pk : Value} {nm : ByteArray} {v : Value} (h : FuncV w b pk nm v) : Calls Tryz.prog 55 #[pt b] w (Ret fun r w' => r = v ∧ w = w') := by
  have h' : Has w b (.cells #[.int .i64 0, pk, .string nm, v, .bool false, .bool false] 83) := h
  refine W.enter (args := [pt b]) Tryz.func55 rfl Tryz.ntmps55 rfl rfl ?_
  refine zst ?_
  exact fin1 (.inl rfl) rfl rfl ⟨rfl, rfl⟩
theorem c_number_pt {bb c0 c1 c : Nat} {w : World} (h : Cells w bb 0 [pt c0, pt c1]) [g0 : Pl w c0] [g1 : Pl w c1] [g : Pl w c] : Calls Tryz.prog 53 #[pt bb, pt c] w (Ret fun r w' => r = .int .i64 (if c = c0 then 0 else if c = c1 then 1 else -1) ∧ w = w') := by
  refine W.enter (args := [pt bb, pt c]) Tryz.func53 rfl Tryz.ntmps53 rfl rfl ?_
  refine zst ?_
  refine WU.yld rfl rfl rfl (yld_load_cells (l := [pt c0, pt c1]) rfl h) ?_
  refine zst ?_
  refine W.loop (σ := Nat) (fun k => [(11, .int .i64 k), (10, .agg #[pt c0, pt c1]), (1, pt c), (4, .int .i64 0)])
    (fun k D' wr => D' = [] ∧ k ≤ 2 ∧ w = wr ∧ (0 < k → c ≠ c0) ∧ (1 < k → c ≠ c1)) (fun k => 2 - k) 0 ⟨rfl, by omega, rfl, by omega, by omega⟩ (by exact sub_of ⟨rfl, rfl, rfl, rfl, trivial⟩) ?_
  rintro k D' wr ⟨rfl, hk, rfl, h0, h1⟩
  have key : ∀ a b : Nat, decide ((⟨a, 0, none⟩ : Addr) = ⟨b, 0, none⟩) = decide (a = b) := fun a b => by simp
  rcases (show k = 0 ∨ k = 1 ∨ k = 2 by omega) with rfl | rfl | rfl
  · refine zst ?_
    rw [show decide (((0 : Nat) : Int) < 2) = true from rfl]
    refine zst ?_
    refine WU.yld rfl rfl rfl (yld_index_arr (cs := [pt c0, pt c1]) (i := ((0 : Nat) : Int)) (v := pt c0) rfl rfl (by decide) (by decide) rfl) ?_
    refine zst ?_
    refine WU.yld rfl rfl rfl (yld_eql_ptr (a := ⟨c, 0, none⟩) (b := ⟨c0, 0, none⟩) rfl rfl) ?_
    rw [key]
    by_cases e : c = c0
    · rw [decide_eq_true e]
      refine zst ?_
      exact fin1 (.inl rfl) rfl rfl ⟨by rw [if_pos e]; rfl, rfl⟩
    · rw [decide_eq_false e]
      refine zst ?_
      exact ⟨1, by decide, ⟨rfl, by omega, rfl, fun _ => e, by omega⟩, sub_of ⟨rfl, rfl, rfl, rfl, trivial⟩⟩
  · refine zst ?_
    rw [show decide (((1 : Nat) : Int) < 2) = true from rfl]
    refine zst ?_
    refine WU.yld rfl rfl rfl (yld_index_arr (cs := [pt c0, pt c1]) (i := ((1 : Nat) : Int)) (v := pt c1) rfl rfl (by decide) (by decide) rfl) ?_
    refine zst ?_
    refine WU.yld rfl rfl rfl (yld_eql_ptr (a := ⟨c, 0, none⟩) (b := ⟨c1, 0, none⟩) rfl rfl) ?_
    rw [key]
    by_cases e : c = c1
    · rw [decide_eq_true e]
      refine zst ?_
      exact fin1 (.inl rfl) rfl rfl ⟨by rw [if_neg (h0 (by decide)), if_pos e]; rfl, rfl⟩
    · rw [decide_eq_false e]
      refine zst ?_
      exact ⟨2, by decide, ⟨rfl, by omega, rfl, fun _ => h0 (by decide), fun _ => e⟩, sub_of ⟨rfl, rfl, rfl, rfl, trivial⟩⟩
  · refine zst ?_
    rw [show decide (((2 : Nat) : Int) < 2) = false from rfl]
    refine zst ?_
    exact fin1 (.inl rfl) rfl rfl ⟨by rw [if_neg (h0 (by decide)), if_neg (h1 (by decide))], rfl⟩
theorem c_number_nil {bb c0 c1 : Nat} {w : World} (h : Cells w bb 0 [pt c0, pt c1]) : Calls Tryz.prog 53 #[pt bb, .pointer none] w (Ret fun r w' => r = .int .i64 (-1) ∧ w = w') := by
  refine W.enter (args := [pt bb, .pointer none]) Tryz.func53 rfl Tryz.ntmps53 rfl rfl ?_
  refine zst ?_
  refine WU.yld rfl rfl rfl (yld_load_cells (l := [pt c0, pt c1]) rfl h) ?_
  refine zst ?_
  refine W.loop (σ := Nat) (fun k => [(11, .int .i64 k), (10, .agg #[pt c0, pt c1]), (1, .pointer none), (4, .int .i64 0)])
    (fun k D' wr => D' = [] ∧ k ≤ 2 ∧ w = wr) (fun k => 2 - k) 0 ⟨rfl, by omega, rfl⟩ (by exact sub_of ⟨rfl, rfl, rfl, rfl, trivial⟩) ?_
  rintro k D' wr ⟨rfl, hk, rfl⟩
  rcases (show k = 0 ∨ k = 1 ∨ k = 2 by omega) with rfl | rfl | rfl
  · refine zst ?_
    rw [show decide (((0 : Nat) : Int) < 2) = true from rfl]
    refine zst ?_
    refine WU.yld rfl rfl rfl (yld_index_arr (cs := [pt c0, pt c1]) (i := ((0 : Nat) : Int)) (v := pt c0) rfl rfl (by decide) (by decide) rfl) ?_
    refine zst ?_
    refine WU.yld rfl rfl rfl (yld_eql_np rfl rfl) ?_
    refine zst ?_
    exact ⟨1, by decide, ⟨rfl, by omega, rfl⟩, sub_of ⟨rfl, rfl, rfl, rfl, trivial⟩⟩
  · refine zst ?_
    rw [show decide (((1 : Nat) : Int) < 2) = true from rfl]
    refine zst ?_
    refine WU.yld rfl rfl rfl (yld_index_arr (cs := [pt c0, pt c1]) (i := ((1 : Nat) : Int)) (v := pt c1) rfl rfl (by decide) (by decide) rfl) ?_
    refine zst ?_
    refine WU.yld rfl rfl rfl (yld_eql_np rfl rfl) ?_
    refine zst ?_
    exact ⟨2, by decide, ⟨rfl, by omega, rfl⟩, sub_of ⟨rfl, rfl, rfl, rfl, trivial⟩⟩
  · refine zst ?_
    rw [show decide (((2 : Nat) : Int) < 2) = false from rfl]
    refine zst ?_
    exact fin1 (.inl rfl) rfl rfl ⟨rfl, rfl⟩
/-- the package of a method, as a number -/
def numOk (m : Mt) (i : Int) : Prop := i = m.pkg ∨ (i = -1 ∧ expo m.name.toList = true)
theorem c_number {K : Cfg} {s : Gs} {w : World} {bb : Nat} {made : List Nat} (h : BI K s w bb made) {m : Mt} {pk : Value} (hk : PkOk s m.pkg m.name pk) (hm : m.pkg = 0 ∨ m.pkg = 1) : Calls Tryz.prog 53 #[pt bb, pk] w (Ret fun r w' => (∃ i, r = .int .i64 i ∧ numOk m i) ∧ w = w') := by
  obtain ⟨na, nl, nc, v, h1, _⟩ := h.ex
  obtain ⟨c0, y0, e0, g0⟩ := h.pkg 0 (.inl rfl)
  obtain ⟨c1, y1, e1, g1⟩ := h.pkg 1 (.inr rfl)
  rw [e0, e1] at h1
  have hc : Cells w bb 0 [pt c0, pt c1] := (Cells.has (cs := [pt c0, pt c1, .slice na nl nc, s.er, v]) h1).part (k := 0) fun j u hu => by
    match j with
    | 0 | 1 => simpa using hu
    | j + 2 => simp at hu
  have p0 : Pl w c0 := ⟨_, _, g0.at_⟩
  have p1 : Pl w c1 := ⟨_, _, g1.at_⟩
  have hne : c1 ≠ c0 := fun e => by
    subst e
    have h2 := g0.at_.symm.trans g1.at_
    simp only [Option.some.injEq, Obj.cells.injEq, Array.mk.injEq, List.cons.injEq, Value.string.injEq] at h2
    exact absurd (pth_inj (.inl rfl) (.inr rfl) (by rw [h2.1.1])) (by decide)
  rcases hk with rfl | ⟨rfl, hx⟩
  · rcases hm with e | e
    · rw [e, e0]
      refine (c_number_pt (c := c0) hc).mono fun _ _ ⟨r, he, hr, hw⟩ => ⟨r, he, ⟨_, hr, .inl ?_⟩, hw⟩
      rw [if_pos rfl, e]
    · rw [e, e1]
      refine (c_number_pt (c := c1) hc).mono fun _ _ ⟨r, he, hr, hw⟩ => ⟨r, he, ⟨_, hr, .inl ?_⟩, hw⟩
      rw [if_neg hne, if_pos rfl, e]
  · exact (c_number_nil hc).mono fun _ _ ⟨r, he, hr, hw⟩ => ⟨r, he, ⟨_, hr, .inr ⟨rfl, hx⟩⟩, hw⟩
end Go.Proofs.YtlemfkbhcleopaaGreatDoor
namespace Go.Proofs.YtlemfkbhcleopaaGreatDoor
open Go Go.Kd

structure Eqv (t u : Ty) : Prop where
  kd : t.kind = u.kind
  n : t.n = u.n
  c : t.count = u.count
  v : t.vr = u.vr
  el : t.elems = u.elems


end Go.Proofs.YtlemfkbhcleopaaGreatDoor
namespace Go.Proofs.YtlemfkbhcleopaaGreatDoor
open Go Go.Kd

theorem ValidT.good {D : List De} {t : Ty} (h : ValidT D t) (hw : wt t ≤ 16777216) : Good D t := ⟨⟨_, _, Nat.le_refl _, h.sh⟩, hw⟩

end Go.Proofs.YtlemfkbhcleopaaGreatDoor
namespace Go.Proofs.YtlemfkbhcleopaaGreatDoor
open Go Go.Kd

theorem mergeE_nodup : ∀ {L : List (List Mt)} {out : List Mt}, (out.map keyM).Nodup → (∀ l ∈ L, (l.map keyM).Nodup) → ((mergeE L out).map keyM).Nodup
  | [], _, h, _ => h
  | l :: L, out, h, hL => by
    show ((mergeE L (l.foldl addM out)).map keyM).Nodup
    refine mergeE_nodup ?_ fun k hk => hL k (List.mem_cons_of_mem _ hk)
    have hl := hL l (List.mem_cons_self ..)
    rw [addM_fold hl, List.map_append, List.nodup_append]
    refine ⟨h, (List.filter_sublist.map _).nodup hl, fun a ha b hb => ?_⟩
    obtain ⟨m, hm, rfl⟩ := List.mem_map.1 hb
    have := (List.mem_filter.1 hm).2
    simp only [decide_eq_true_eq] at this
    exact fun e => this (e ▸ ha)
/-- how the methods of an interface came about -/
theorem IM.inv {D : List De} {t u : Ty} {c : Nat} {ms : List Mt} (hu : underT D t = u) (h9 : u.kind = 9) (hc : u.count = c) (hcl : c ≤ u.elems.length) (h : IM D t ms) :
    ∃ L, L.length = u.elems.length - c ∧ (∀ (j : Nat) e l, u.elems[c + j]? = some e → L[j]? = some l → IM D e l) ∧ ms = mergeE L (ownM u c) := by
  subst hu
  cases h with
  | no _ k => exact absurd h9 k
  | yes _ L _ hl h1 h2 =>
    have hlen : (L.take c).length = c := by rw [List.length_take]; omega
    have hown : L.take c = ((underT D t).elems.take c).map (fun e => [(⟨e.name, (underT D t).n, e⟩ : Mt)]) := by
      refine lists_eq _ _ (by simp; omega) fun i a b ha hb => ?_
      have hi : i < c := by rw [← hlen]; exact (List.getElem?_eq_some_iff.1 ha).1
      rw [List.getElem?_take_of_lt hi] at ha
      rw [List.getElem?_map, List.getElem?_take_of_lt hi] at hb
      cases he : (underT D t).elems[i]? with
      | none => rw [he] at hb; cases hb
      | some e =>
        rw [he] at hb
        rw [h1 i e a he ha (by omega)]
        exact Option.some.inj hb
    refine ⟨L.drop c, by simp; omega, fun j e l he hj => ?_, ?_⟩
    · rw [List.getElem?_drop] at hj
      exact h2 (c + j) e l he hj (by omega)
    · conv => lhs; rw [← List.take_append_drop c L]
      rw [mergeM_lo _ _ _ 0 [] (by rw [hlen, hc]; simp), mergeM_hi _ _ _ _ (by rw [hlen, hc]; simp), List.nil_append, hown, flatten_single (fun e => (⟨e.name, (underT D t).n, e⟩ : Mt))]
      rfl
/-- an interface's methods have names of their own -/
theorem IM_nodup {D : List De} (hD : OkD D) (hV : ValidD D) {t : Ty} {ms : List Mt} (h : IM D t ms) : Good D t → Legal D t → (ms.map keyM).Nodup := by
  induction h with
  | no => intros; simp
  | yes t L h9 hl h1 h2 ih =>
    intro hG hL
    have hGu := hG.under hD
    have hLu := legal_under hV hG hL
    obtain ⟨i, v, _, hs⟩ := hGu.sh
    have c0 := hs.shape.c0 (.inr h9)
    have c1 := hs.shape.c1 (.inr h9)
    obtain ⟨c, hc⟩ : ∃ c : Nat, (underT D t).count = c := ⟨(underT D t).count.toNat, by omega⟩
    obtain ⟨L', l1, l2, e⟩ := IM.inv rfl h9 hc (by omega) (.yes t L h9 hl h1 h2)
    rw [e]
    refine mergeE_nodup (own_nodup (by have := hLu.here.unq h9; rwa [hc, Int.toNat_natCast] at this) fun i e he hi => hLu.here.mth h9 i e he (by omega)) fun l hl' => ?_
    obtain ⟨j, hj⟩ := List.getElem?_of_mem hl'
    have hlt := (List.getElem?_eq_some_iff.1 hj).1
    have hel : (underT D t).elems[c + j]? = some (underT D t).elems[c + j] := List.getElem?_eq_getElem (by omega)
    have hL0 : L[c + j]? = some L[c + j] := List.getElem?_eq_getElem (by omega)
    have := IM.det (l2 j _ l hel hj) (h2 (c + j) _ _ hel hL0 (by omega))
    rw [this]
    exact ih (c + j) _ _ hel hL0 (by omega) (hGu.el hel) (hLu.el _ _ hel)
theorem IM_legal {D : List De} (hD : OkD D) (hV : ValidD D) {t : Ty} {ms : List Mt} (h : IM D t ms) (hG : Good D t) (hL : Legal D t) : ∀ m ∈ ms, Legal D m.fn := legal_IM hV hD h hG hL
theorem anM_keyA (ms : List Mt) : (anM ms).map keyA = ms.map keyM := by unfold anM; rw [List.map_map]; rfl
/-- a legal type's tree is well-formed -/
theorem exp_wf {D : List De} (hD : OkD D) (hV : ValidD D) {t : Ty} {x : X} (h : Exp D t x) : Good D t → Legal D t → WfX x := by
  induction h with
  | leaf t hk => exact fun _ _ => .leaf _ _
  | plain t es h2 h8 hl _ ih =>
    intro hG hL
    refine .node _ _ _ _ _ _ (fun h => by omega) fun e he => ?_
    obtain ⟨i, hi⟩ := List.getElem?_of_mem he
    have hlt := (List.getElem?_eq_some_iff.1 hi).1
    have hel : (unaliasT D t).elems[i]? = some (unaliasT D t).elems[i] := List.getElem?_eq_getElem (by omega)
    exact ih i _ e hel hi ((hG.unalias hD).el hel) ((legal_unalias hV hG hL).el _ _ hel)
  | iface t ms es h9 hm hl _ ih =>
    intro hG hL
    have hG' := hG.unalias hD
    have hL' := legal_unalias hV hG hL
    refine .node _ _ _ _ _ _ (fun _ => ⟨by unfold anM; rw [List.length_map, hl], by rw [anM_keyA]; exact IM_nodup hD hV hm hG' hL'⟩) fun e he => ?_
    obtain ⟨i, hi⟩ := List.getElem?_of_mem he
    have hlt := (List.getElem?_eq_some_iff.1 hi).1
    have hel : ms[i]? = some ms[i] := List.getElem?_eq_getElem (by omega)
    exact ih i _ e hel hi (IM_good hD hm hG' _ (List.mem_of_getElem? hel)) (IM_legal hD hV hm hG' hL' _ (List.mem_of_getElem? hel))

end Go.Proofs.YtlemfkbhcleopaaGreatDoor
namespace Go.Kd

/-- an operation of a drawn region: its number, where its result goes, what holds of the result from then on; B: the new blocks that it made for the result -/
structure Tsk where
  i : Nat
  d : Nat
  o : Oper
  B : Value → Nat → Prop
  F : Value → World → Prop
section
variable {P : Program} {n : Nat} {ops : List Oper} {Q : Post} {D : List Deferred} {e : Env} {w : World}
end
end Go.Kd
namespace Go.Proofs.YtlemfkbhcleopaaGreatDoor.Law
open Go Go.Kd
set_option maxRecDepth 100000

abbrev E0 : ByteArray := ⟨#[]⟩







/-- the value of a type: what it reads -/
structure TvP (w : World) (p : Nat → Prop) (v : Value) (t : Ty) : Prop where
  ex : ∃ a c, v = .agg (tyc t a c).toArray ∧ TysV w p a c t.elems
abbrev TvV (w : World) (v : Value) (t : Ty) : Prop := TvP w (fun b => b < w.heap.size) v t
theorem TvP.mono {w : World} {p q : Nat → Prop} (hq : ∀ b, p b → q b) {v : Value} {t : Ty} (h : TvP w p v t) : TvP w q v t := by
  obtain ⟨a, c, h1, h2⟩ := h.ex
  exact ⟨a, c, h1, h2.mono hq⟩
theorem TvP.at_ {w w' : World} (x : Ext w w') {p : Nat → Prop} {v : Value} {t : Ty} (h : TvP w p v t) : TvP w' p v t := by
  obtain ⟨a, c, h1, h2⟩ := h.ex
  exact ⟨a, c, h1, h2.ext x⟩
theorem TvP.ext {w w' : World} (x : Ext w w') {v : Value} {t : Ty} (h : TvV w v t) : TvV w' v t := (h.at_ x).mono fun b hb => by have := x.size; omega
/-- declarations in memory -/
structure LW (D : List De) (a : Option Addr) (cp : Nat) (w : World) : Prop where
  hp : Prp w
  hd : DsV w (fun b => b < w.heap.size) (.slice a D.length cp) D
theorem LW.ext {D : List De} {a : Option Addr} {cp : Nat} {w w' : World} (x : Ext w w') (h : LW D a cp w) : LW D a cp w' := ⟨h.hp.ext x, (h.hd.ext x).mono fun b hb => by have := x.size; omega⟩
theorem TvV.tys {w : World} {t : Ty} {a : Option Addr} {c : Nat} (h : TvV w (.agg (tyc t a c).toArray) t) : TysV w (fun b => b < w.heap.size) a c t.elems := by
  obtain ⟨a', c', e, h⟩ := h.ex
  simp only [Value.agg.injEq, Array.mk.injEq, List.cons.injEq, Value.slice.injEq, true_and, and_true] at e
  obtain ⟨rfl, rfl⟩ := e
  exact h
/-- a valid type with its tree; its weight is at most n -/
structure VX (D : List De) (n : Nat) (t : Ty) (x : X) : Prop where
  vt : ValidT D t
  wt : wt t ≤ n
  ex : Exp D t x
  wf : WfX x
theorem VX.of {D : List De} (hD : OkD D) (hV : ValidD D) {n : Nat} {t : Ty} {x : X} (h : ValidT D t) (hw : Go.Proofs.YtlemfkbhcleopaaGreatDoor.wt t ≤ n) (hn : n ≤ 16777216) (hx : Exp D t x) : VX D n t x := ⟨h, hw, hx, exp_wf hD hV hx (h.good (by omega)) h.lg⟩
theorem VX.ofT {D : List De} (hD : OkD D) (hV : ValidD D) {n : Nat} {t : Ty} (h : ValidT D t) (hw : Go.Proofs.YtlemfkbhcleopaaGreatDoor.wt t ≤ n) (hn : n ≤ 16777216) : ∃ x, VX D n t x := by
  obtain ⟨x, hx⟩ := (h.good (by omega)).exp hD
  exact ⟨x, .of hD hV h hw hn hx⟩
theorem t_Valid2 {D : List De} {a : Option Addr} {cp : Nat} {w : World} (lw : LW D a cp w) (hwd : wtD D ≤ 1048576) {t u : Ty} {v v' : Value} {a1 a2 : Option Addr} {c1 c2 r : Nat} (hr : Has w r (.cells (tyc t a1 c1 ++ tyc u a2 c2).toArray 26)) (hv : v = .agg (tyc t a1 c1).toArray) (hv' : v' = .agg (tyc u a2 c2).toArray) (T : TvV w v t) (T' : TvV w v' u) (hw : wt t ≤ 16777216) (hw' : wt u ≤ 16777216) :
    Calls Tryz.prog 12 #[.slice a D.length cp, .slice (some ⟨r, 0, none⟩) 2 2] w (Ret fun q w' => ∃ b, q = .bool b ∧ (b = true → ValidD D ∧ ValidT D t ∧ ValidT D u) ∧ Ext w w') := by
  subst hv hv'
  refine (c_Valid (l := [t, u]) (by omega) (by have := len_wtD D; omega) (by simpa using ⟨hw, hw'⟩) (by simp) a cp (some ⟨r, 0, none⟩) 2 w (fun b => b < w.heap.size) (fun b hb => hb) lw.hd (tys_two hr hr.lt T.tys T'.tys)).mono fun e w' ⟨q, he, b, e1, h, x⟩ => ⟨q, he, b, e1, fun hb => ?_, x⟩
  obtain ⟨h1, h2⟩ := h hb
  exact ⟨h1, h2 t (by simp), h2 u (by simp)⟩
theorem okD {D : List De} (hV : ValidD D) (hwd : wtD D ≤ 1048576) : OkD D := ⟨hV.sh, by omega, by have := len_wtD D; omega⟩
end Go.Proofs.YtlemfkbhcleopaaGreatDoor.Law
namespace Go.Proofs.YtlemfkbhcleopaaGreatDoor
open Go Go.Kd
set_option maxRecDepth 100000

structure Mi where
  name : ByteArray
  pk : Int
  same : Bool
abbrev miC (x : Mi) : List Value := [.string x.name, .int .i64 x.pk, .bool x.same]
/-- what is told about a method -/
def MiOk (D : List De) (xf : X) (m : Mt) (x : Mi) : Prop := x.name = m.name ∧ numOk m x.pk ∧ ∀ z, Exp D m.fn z → x.same = idX true z xf
/-- a slice of what is told -/
def MisV (w : World) (a : Option Addr) (l : List Mi) : Prop := SlC w (fun b => b < w.heap.size) 3 a l.length fun i => (l.map miC).getD i []
set_option maxHeartbeats 4000000 in
theorem c_iMethods {D : List De} {t u : Ty} {xf : X} {a : Option Addr} {cp : Nat} {a1 a2 : Option Addr} {c1 c2 : Nat} {w : World} (hp : Prp w) (hV : ValidD D) (hT : ValidT D t) (hU : ValidT D u) (hwd : wtD D ≤ 16777216) (hwt : wt t ≤ 16777216) (hwu : wt u ≤ 16777216) (hi : isIfaceT D t = true) (hx : Exp D u xf)
    (hd : DsV w (fun b => b < w.heap.size) (.slice a D.length cp) D) (ht : TysV w (fun b => b < w.heap.size) a1 c1 t.elems) (hu : TysV w (fun b => b < w.heap.size) a2 c2 u.elems) :
    Calls Tryz.prog 30 #[.slice a D.length cp, .agg (tyc t a1 c1).toArray, .agg (tyc u a2 c2).toArray] w
      (Ret fun r w' => Ext w w' ∧ ∃ ms ms0 L a' c', IM D t ms0 ∧ ms.Perm ms0 ∧ Srtd ms ∧ (∀ m ∈ ms, Ident m.name.toList ∧ (m.pkg = 0 ∨ m.pkg = 1)) ∧ L.length = ms.length ∧ r = .slice a' L.length c' ∧ L.length ≤ c' ∧ MisV w' a' L ∧ ∀ (i : Nat) m x, ms[i]? = some m → L[i]? = some x → MiOk D xf m x) := by
  refine W.enter (args := [.slice a D.length cp, .agg (tyc t a1 c1).toArray, .agg (tyc u a2 c2).toArray]) Tryz.func30 rfl Tryz.ntmps30 rfl rfl ?_
  refine zst ?_
  refine WU.stp rfl rfl rfl (by first | exact stp_box rfl rfl | exact stp_box1 rfl rfl) ?_
  rintro _ w1 ⟨b4, rfl, n1⟩
  refine zst ?_
  have ib4 : Has w1 b4 (.cells (tyc t a1 c1).toArray 26) := n1.has
  refine WU.stp rfl rfl rfl (by first | exact stp_box rfl rfl | exact stp_box1 rfl rfl) ?_
  rintro _ w2 ⟨b5, rfl, n2⟩
  have ib5 : Has w2 b5 (.cells (tyc u a2 c2).toArray 26) := n2.has
  have x02 := n1.ext.trans n2.ext
  have z02 := x02.size
  have jb4 := ib4.ext' n2.ext
  refine zst ?_
  refine WU.stp rfl rfl rfl (stp_call rfl (c_build' (hp.ext x02) hV hwd (hd.ext x02) fun b hb => by omega)) ?_
  rintro _ w3 ⟨K, s, bb, rfl, rfl, hKN, x3, hB⟩
  have z3 := x3.size
  have jb4' := jb4.ext' x3
  have jb5' := ib5.ext' x3
  refine zst ?_
  refine WU.stp rfl rfl rfl (stp_call rfl (c_face hB (p := fun b => b < w.heap.size) (cs := tyc t a1 c1) (t := t) ((TyV.of_tys ht).ext (x02.trans x3)) (fun b hb => ⟨by omega, by omega⟩) hT.sh hT.lg (by show _ ≤ 268435456; omega))) ?_
  rintro rf w5 ⟨s5, hg5, st5, hB5, hf⟩
  rcases hf with ⟨h0, _⟩ | ⟨_, bq, q, rfl, hif, hqu, rtq⟩
  · rw [hi] at h0; cases h0
  have x25 : Ext w2 w5 := ext_sta x3 (by omega) st5
  have z5 := x25.size
  have kb5 : Has w5 b5 (.cells (tyc u a2 c2).toArray 26) := Has.sta st5 jb5'
  refine zst ?_
  refine WU.stp rfl rfl rfl (stp_call rfl (c_of hB5 (p := fun b => b < w.heap.size) (cs := tyc u a2 c2) (t := u) ((TyV.of_tys hu).ext (x02.trans x25)) (fun b hb => ⟨by omega, by omega⟩) ⟨true, hU.sh⟩ hU.lg (by show _ ≤ 268435456; omega))) ?_
  rintro _ w6 ⟨s6, hg6, st6, hB6, rt6, T6, rb6, rfl⟩
  have x26 : Ext w2 w6 := ext_sta x25 (by omega) st6
  have z6 := x26.size
  have rtq' := RT.gle hg6 (rtq.sta st6 (by omega))
  have txf := TX.of hB6.ic rt6 (hU.good hwu) hU.lg hx
  obtain ⟨b, tb, ms, fb, hbe, _, _, hts⟩ := rtq'.ifs hB6.ic hif
  obtain rfl : bq = b := by
    simp only [Value.iface.injEq, Value.pointer.injEq, Option.some.injEq, Addr.mk.injEq, and_true, true_and] at hbe
    exact hbe
  obtain ⟨ms0, hm, hpm⟩ := hts.im
  have hmt : IM K.D t ms0 := hm.under (by
    have h9 := hif.norm9
    rw [hif.under_norm, under_lit (by omega) (by omega), norm_of_norm, hqu])
  have hGd := IM_good hB6.ic.ok hmt (hT.good hwt)
  have hLg := legal_IM hB6.ic.vd hB6.ic.ok hmt (hT.good hwt) hT.lg
  have hsz : ms.length ≤ 100000000 := by
    have h4 := IM_len hB6.ic.ok.sh hmt (Nat.le_refl _) hT.sh
    have h6 := hB6.ic.ok.wt
    have h7 := hpm.length_eq
    omega
  refine zst ?_
  refine WU.stp rfl rfl rfl (stp_call rfl (c_NumMethods hts)) ?_
  rintro _ _ ⟨rfl, rfl⟩
  refine zst ?_
  refine W.loop (σ := Nat × Value) (fun (k, v) => [(25, .int .i64 k), (24, .int .i64 ms.length), (9, v), (8, pt bq), (7, pt bb), (10, .iface T6 (pt rb6))])
    (fun (k, v) D' wr => D' = [] ∧ k ≤ ms.length ∧ Ext w6 wr ∧ ∃ L : List Mi, Own wr w6.heap.size 51 3 v (L.map miC) ∧ L.length = k ∧ ∀ (i : Nat) m x, ms[i]? = some m → L[i]? = some x → MiOk K.D xf m x)
    (fun (k, _) => ms.length - k) (0, .slice none 0 0) ⟨rfl, Nat.zero_le _, Ext.rfl' _, [], Own.nil .., rfl, fun i m x _ h => by simp at h⟩ (by exact sub_of ⟨rfl, rfl, rfl, rfl, rfl, rfl, trivial⟩) ?_
  rintro ⟨k, v⟩ D' wr ⟨rfl, hk, xr, L, ho, hL, hO⟩
  have hzr := xr.size
  refine zst ?_
  by_cases hlt : k < ms.length
  · rw [show decide ((k : Int) < (ms.length : Int)) = true by simpa using hlt]
    have hmk := List.getElem?_eq_getElem hlt
    generalize ms[k] = m at hmk
    have hts' := hts.tr (.sta (l := 0) (.of_ext xr) (by omega) all') (.sta (l := 0) (.of_ext xr) (by omega) s6.sl)
    refine zst ?_
    refine WU.stp rfl rfl rfl (stp_call rfl (c_Method hts' hlt)) ?_
    rintro _ _ ⟨rfl, rfl⟩
    obtain ⟨pk, sv, okp, _, fv, rtm, km, idm, pm, nzm⟩ := hts'.mth k m hmk
    have hmem : m ∈ ms0 := hpm.mem_iff.1 (List.mem_of_getElem? hmk)
    obtain ⟨z, hz⟩ := (hGd m hmem).exp hB6.ic.ok
    have txm := TX.of (hB6.ic.ext xr) rtm (hGd m hmem) (hLg m hmem) hz
    have hFV : Has wr (fb k) (.cells #[.int .i64 0, pk, .string m.name, sv, .bool false, .bool false] 83) := fv
    refine zst ?_
    obtain ⟨F, hFd⟩ : ∃ F : World → Prop, ∀ W, F W ↔ (True) := ⟨fun W => (True), fun _ => Iff.rfl⟩
    refine W.regR (R := fun a b => F a → F b) (fun _ h => h) (fun _ _ _ h k x => k (h x)) [(0, .q), (1, .q), (2, .q), (3, .q), (5, .q), (6, .q), (7, .q), (8, .q), (11, .q), (12, .q), (13, .q), (15, .q), (4, .l), (9, .l), (10, .l), (14, .l), (16, .l), (17, .q), (18, .l), (19, .l), (20, .q)] (by kernel_rfl) (by kernel_rfl) rfl ?_
    intro w7 x7 _
    have hF : F w7 := (hFd _).2 trivial
    have fv7 : FuncV w7 (fb k) pk m.name sv := fv.ext' x7
    have hB7 := (hB6.ext xr).ext x7
    have txm7 := txm.ext x7
    have txf7 := (txf.ext xr).ext x7
    (repeat (first
        | refine WR.nilk ?_
        | refine WR.nil ?_
        | refine WR.yld (fun _ h => h) rfl rfl rfl rfl (fun w' hx => by obtain _hh := (hFd _).1 (hx hF); first | exact zyl | (exact zyl) | exact yld_indexAddr_arr rfl rfl (by omega)) ?_
        | refine WR.skip rfl rfl rfl rfl ?_))
    refine WR.stp rfl rfl rfl rfl (stp_call rfl (c_oName fv7)) ?_
    rintro _ _ ⟨rfl, rfl⟩
    refine ⟨fun h => h, ?_⟩
    (repeat (first
        | refine WR.nilk ?_
        | refine WR.nil ?_
        | refine WR.yld (fun _ h => h) rfl rfl rfl rfl (fun w' hx => by obtain _hh := (hFd _).1 (hx hF); first | exact zyl | (exact zyl) | exact yld_indexAddr_arr rfl rfl (by omega)) ?_
        | refine WR.skip rfl rfl rfl rfl ?_))
    refine WR.stp rfl rfl rfl rfl (stp_call rfl (c_oPkg fv7)) ?_
    rintro _ _ ⟨rfl, rfl⟩
    refine ⟨fun h => h, ?_⟩
    (repeat (first
        | refine WR.nilk ?_
        | refine WR.nil ?_
        | refine WR.yld (fun _ h => h) rfl rfl rfl rfl (fun w' hx => by obtain _hh := (hFd _).1 (hx hF); first | exact zyl | (exact zyl) | exact yld_indexAddr_arr rfl rfl (by omega)) ?_
        | refine WR.skip rfl rfl rfl rfl ?_))
    refine WR.stp rfl rfl rfl rfl (stp_call rfl (c_number hB7.bi okp pm)) ?_
    rintro _ _ ⟨⟨pi, rfl, hpi⟩, rfl⟩
    refine ⟨fun h => h, ?_⟩
    (repeat (first
        | refine WR.nilk ?_
        | refine WR.nil ?_
        | refine WR.yld (fun _ h => h) rfl rfl rfl rfl (fun w' hx => by obtain _hh := (hFd _).1 (hx hF); first | exact zyl | (exact zyl) | exact yld_indexAddr_arr rfl rfl (by omega)) ?_
        | refine WR.skip rfl rfl rfl rfl ?_))
    refine WR.stp rfl rfl rfl rfl (stp_call rfl (c_oType fv7)) ?_
    rintro _ _ ⟨rfl, rfl⟩
    refine ⟨fun h => h, ?_⟩
    (repeat (first
        | refine WR.nilk ?_
        | refine WR.nil ?_
        | refine WR.yld (fun _ h => h) rfl rfl rfl rfl (fun w' hx => by obtain _hh := (hFd _).1 (hx hF); first | exact zyl | (exact zyl) | exact yld_indexAddr_arr rfl rfl (by omega)) ?_
        | refine WR.skip rfl rfl rfl rfl ?_))
    refine WR.stp rfl rfl rfl rfl (stp_call rfl (c_gIdentical hB7.ic txm7 txf7)) ?_
    rintro _ w8 ⟨rfl, x8⟩
    have hF : F w8 := (hFd _).2 trivial
    refine ⟨fun _ => hF, ?_⟩
    (repeat (first
        | refine WR.nilk ?_
        | refine WR.nil ?_
        | refine WR.yld (fun _ h => h) rfl rfl rfl rfl (fun w' hx => by obtain _hh := (hFd _).1 (hx hF); first | exact zyl | (exact zyl) | exact yld_indexAddr_arr rfl rfl (by omega)) ?_
        | refine WR.skip rfl rfl rfl rfl ?_))
    refine WR.stp rfl rfl rfl rfl (stp_buildSlice rfl rfl rfl rfl rfl) ?_
    rintro _ w9 ⟨b9, rfl, n9⟩
    have hF : F w9 := (hFd _).2 trivial
    refine ⟨fun _ => hF, ?_⟩
    (repeat (first
        | refine WR.nilk ?_
        | refine WR.nil ?_
        | refine WR.yld (fun _ h => h) rfl rfl rfl rfl (fun w' hx => by obtain _hh := (hFd _).1 (hx hF); first | exact zyl | (exact zyl) | exact yld_indexAddr_arr rfl rfl (by omega)) ?_
        | refine WR.skip rfl rfl rfl rfl ?_))
    have xt := x7.trans (x8.trans n9.ext)
    have st := xt.size
    have i9 : Has w9 b9 (.cells (miC ⟨m.name, pi, idX true z xf⟩).toArray 51) := n9.has
    refine WR.stp rfl rfl rfl rfl (stp_append1 (el := 51) rfl rfl (ho.ext xt) (Cells.has i9) rfl rfl (by omega) (by simp [Value.oneCell']) (by rw [List.length_map]; omega) (by omega)) ?_
    rintro v' w10 ⟨o10, a10, g10⟩
    have hF : F w10 := (hFd _).2 trivial
    refine ⟨fun _ => hF, ?_⟩
    (repeat (first
        | refine WR.nilk ?_
        | refine WR.nil ?_
        | refine WR.yld (fun _ h => h) rfl rfl rfl rfl (fun w' hx => by obtain _hh := (hFd _).1 (hx hF); first | exact zyl | (exact zyl) | exact yld_indexAddr_arr rfl rfl (by omega)) ?_
        | refine WR.skip rfl rfl rfl rfl ?_))
    refine zst ?_
    have y10 := a10.ext (ho.ext xt) (xr.trans xt) (by omega)
    refine ⟨(k + 1, v'), by show ms.length - (k + 1) < ms.length - k; omega, ⟨rfl, by omega, y10, L ++ [⟨m.name, pi, idX true z xf⟩], by rw [List.map_append]; exact o10, by rw [List.length_append, hL]; rfl, fun i m' x h1 h2 => ?_⟩, sub_of ⟨rfl, rfl, rfl, rfl, rfl, rfl, trivial⟩⟩
    rcases Nat.lt_trichotomy i k with h | h | h
    · rw [List.getElem?_append_left (by omega)] at h2
      exact hO i m' x h1 h2
    · subst h
      rw [List.getElem?_append_right (by omega), hL, Nat.sub_self] at h2
      simp at h2
      subst h2
      rw [hmk] at h1
      cases h1
      exact ⟨rfl, hpi, fun z' hz' => by rw [Exp.det hz' hz]⟩
    · rw [List.getElem?_eq_none (by simp; omega)] at h2
      cases h2
  · rw [show decide ((k : Int) < (ms.length : Int)) = false by simpa using hlt]
    obtain ⟨a', cp', e', h1, h2⟩ := ho.shape
    rw [List.length_map] at e' h1 h2
    subst e'
    refine zst ?_
    refine fin1 (.inl rfl) rfl rfl ⟨(x02.trans x26).trans xr, ms, ms0, L, a', cp', hmt, hpm, hts.srt, fun m hm => ?_, by omega, rfl, h1, ?_, hO⟩
    · obtain ⟨i, hi'⟩ := List.getElem?_of_mem hm
      obtain ⟨_, _, _, _, _, _, _, q1, q2, _⟩ := hts.mth i m hi'
      exact ⟨q1, q2⟩
    · exact h2.mono fun b hb => (ho.lt b hb).2
end Go.Proofs.YtlemfkbhcleopaaGreatDoor
namespace Go.Kd
theorem bytes_asym : ∀ a b : List UInt8, Lib.compareBytes a b < 0 → Op.bytesLess b a = false ∧ b ≠ a
  | [], [], h => by simp [Lib.compareBytes] at h
  | [], b :: k, _ => ⟨rfl, by simp⟩
  | a :: l, [], h => by simp [Lib.compareBytes] at h
  | a :: l, b :: k, h => by
    unfold Lib.compareBytes at h
    by_cases h1 : a < b
    · have h2 : ¬ b < a := fun h => UInt8.lt_irrefl a (UInt8.lt_trans h1 h)
      have h3 : b ≠ a := fun e => UInt8.lt_irrefl a (e ▸ h1)
      refine ⟨?_, fun e => h3 (by simp at e; exact e.1)⟩
      simp [Op.bytesLess, h2, h3]
    · rw [if_neg h1] at h
      by_cases h2 : b < a
      · rw [if_pos h2] at h
        exact absurd h (by decide)
      · rw [if_neg h2] at h
        obtain ⟨h4, h5⟩ := bytes_asym l k h
        exact ⟨by simp [Op.bytesLess, h2, h4], fun e => h5 (by simp at e; exact e.2)⟩
section
variable {P : Program} {e : Env} {w : World} {d : Option Tmp} {ty t t2 : TypeId} {pos : String} {aft : Array Edge} {g : Option (Nat × Bool)} {x y : Operand}
theorem yld_leq_str {a b : ByteArray} (hx : ev e x = some (.string a)) (hy : ev e y = some (.string b)) : Yld P e ⟨d, .binOp .leq t x y t2, ty, pos, aft, g⟩ (.bool (Op.bytesLess a.toList b.toList || a.toList == b.toList)) w := ⟨fun ρ hρ w' _ =>
  run_binOp_plain (hρ x _ hx) (hρ y _ hy) eqGuard_str (by simp [binOp, Op.stringOp])⟩
end
end Go.Kd
namespace Go.Proofs.YtlemfkbhcleopaaGreatDoor
open Go Go.Kd
set_option maxRecDepth 100000

theorem srtd_key {ms : List Mt} (h : Srtd ms) {i j : Nat} {m m' : Mt} (hi : ms[i]? = some m) (hj : ms[j]? = some m') (hn : m.name.toList = m'.name.toList) (hp : expo m.name.toList = true ∨ m.pkg = m'.pkg) : i = j := by
  have key : ∀ (i j : Nat) (m m' : Mt), ms[i]? = some m → ms[j]? = some m' → m.name.toList = m'.name.toList → (expo m.name.toList = true ∨ m.pkg = m'.pkg) → ¬ i < j := fun i j m m' hi hj hn hp hlt => by
    have h1 := h i j m m' hlt hi hj
    unfold cmpM cmpN at h1
    rw [hn] at h1 hp
    rcases hp with hp | hp
    · simp [hp] at h1
    · rw [hp] at h1
      cases he : expo m'.name.toList <;> simp [he, compareBytes_self] at h1
  have h1 := key i j m m' hi hj hn hp
  have h2 := key j i m' m hj hi hn.symm (by rw [← hn]; exact hp.imp id Eq.symm)
  omega
/-- an exported name comes behind those that were there -/
theorem srtd_expo {ms : List Mt} (h : Srtd ms) {i j : Nat} {m m' : Mt} (hlt : i < j) (hi : ms[i]? = some m) (hj : ms[j]? = some m') (h1 : expo m.name.toList = true) (h2 : expo m'.name.toList = true) : (Op.bytesLess m'.name.toList m.name.toList || m'.name.toList == m.name.toList) = false := by
  have h3 := h i j m m' hlt hi hj
  unfold cmpM cmpN at h3
  rw [h1, h2] at h3
  simp only [bne_self_eq_false, Bool.false_eq_true, if_false, Bool.not_true] at h3
  by_cases e : m.name.toList = m'.name.toList
  · rw [e] at h3; simp at h3
  · have e' : (!(m.name.toList == m'.name.toList)) = true := by simp [e]
    rw [e'] at h3
    simp only [if_true] at h3
    obtain ⟨k1, k2⟩ := bytes_asym _ _ h3
    simp [k1, k2]
/-- what is told tells methods apart -/
theorem miOk_ne {D : List De} {xf : X} {ms : List Mt} (h : Srtd ms) {i j : Nat} {m m' : Mt} {x y : Mi} (hi : ms[i]? = some m) (hj : ms[j]? = some m') (hx : MiOk D xf m x) (hy : MiOk D xf m' y) (hn : x.name.toList = y.name.toList) (hp : x.pk = y.pk) (hm : m.pkg = 0 ∨ m.pkg = 1) (hm' : m'.pkg = 0 ∨ m'.pkg = 1) : i = j := by
  rw [hx.1, hy.1] at hn
  refine srtd_key h hi hj hn ?_
  rcases hx.2.1 with e | ⟨_, e⟩
  · rcases hy.2.1 with e' | ⟨e', _⟩
    · right; rw [← e, ← e']; exact hp
    · omega
  · exact .inl e
/-- the method that is found -/
theorem find_mi {D : List De} {xf : X} {ms ms0 : List Mt} (h : Srtd ms) (hp : ms.Perm ms0) {i : Nat} {m : Mt} {x : Mi} (hi : ms[i]? = some m) (hx : MiOk D xf m x) : findM ms0 x.name.toList x.pk = some m := by
  have hs : sameNm m.name.toList m.pkg x.name.toList x.pk = true := by
    unfold sameNm
    rw [hx.1]
    rcases hx.2.1 with e | ⟨_, e⟩ <;> simp [e]
  have hmem : m ∈ ms0 := hp.mem_iff.1 (List.mem_of_getElem? hi)
  unfold findM
  cases hf : ms0.find? fun m => sameNm m.name.toList m.pkg x.name.toList x.pk with
  | none =>
    have := List.find?_eq_none.1 hf m hmem
    exact absurd hs (by simpa using this)
  | some m' =>
    have h1 := List.find?_some hf
    have h2 := hp.mem_iff.2 (List.mem_of_find?_eq_some hf)
    obtain ⟨j, hj⟩ := List.getElem?_of_mem h2
    unfold sameNm at h1
    simp only [Bool.and_eq_true, beq_iff_eq, Bool.or_eq_true] at h1
    have : j = i := srtd_key h hj hi (by rw [h1.1, hx.1]) (by
      rcases h1.2 with e | e
      · rcases hx.2.1 with e' | ⟨_, e'⟩
        · right; rw [e, e']
        · left; rw [h1.1, hx.1]; exact e'
      · exact .inl e)
    subst this
    rw [hi] at hj
    exact hj.symm
theorem c_Find {D : List De} (hD : OkD D) (a : Option Addr) (cp : Nat) {t : Ty} {ms : List Mt} (hI : IM D t ms) (hG : Good D t) (s : ByteArray) (pk : Int) (a1 : Option Addr) (c1 : Nat) (w : World) (hd : DsV w (fun b => b < w.heap.size) (.slice a D.length cp) D) (ht : TysV w (fun b => b < w.heap.size) a1 c1 t.elems) :
    Calls Tryz.prog 31 #[.slice a D.length cp, .agg (tyc t a1 c1).toArray, .string s, .int .i64 pk] w (Ret fun r w' => FoundV w' (fun b => b < w'.heap.size) r (findM ms s.toList pk) ∧ Ext w w') := by
  refine W.enter (args := [.slice a D.length cp, .agg (tyc t a1 c1).toArray, .string s, .int .i64 pk]) Tryz.func31 rfl Tryz.ntmps31 rfl rfl ?_
  refine zst ?_
  refine WU.stp rfl rfl rfl (by first | exact stp_box rfl rfl | exact stp_box1 rfl rfl) ?_
  rintro _ w1 ⟨b1, rfl, n1⟩
  have ib1 : Has w1 b1 (.cells (tyc t a1 c1).toArray 26) := n1.has
  refine WU.stp rfl rfl rfl stp_alloc ?_
  rintro _ w2 ⟨b2, rfl, n2⟩
  have ib1' := ib1.ext' n2.ext
  have x2 := n1.ext.trans n2.ext
  have hb2 := n2.num
  have z1 := n1.size
  refine zst ?_
  refine WU.stp rfl rfl rfl (stp_call rfl (c_InterfaceMethods hD a cp hI hG a1 c1 w2 (fun b => b < w.heap.size) (fun b hb => by have := x2.size; omega) (hd.ext x2) (ht.ext x2))) ?_
  rintro r3 w3 ⟨hr, x3⟩
  refine zst ?_
  refine WU.stp rfl rfl rfl (stp_call rfl (c_find s pk w3 hr (IM_len' hD hG hI))) ?_
  rintro r4 w4 ⟨hf, x4⟩
  have x24 := x3.trans x4
  have ib2 : Has w4 b2 _ := n2.has.ext' x24
  have z24 := x24.size
  have z4 := x4.size
  cases hq : findM ms s.toList pk with
  | none =>
    rw [hq] at hf
    have hf : r4 = .tuple #[.agg mtz.toArray, .bool false] := hf
    subst hf
    refine zst ?_
    refine WU.stp0 rfl rfl (stp_store_whole rfl rfl rfl rfl) ?_
    rintro _ w5 u5
    refine zst ?_
    exact finct (.inl rfl) rfl rfl rfl ⟨rfl, u5.ext (x2.trans x24) (by omega)⟩
  | some m =>
    rw [hq] at hf
    obtain ⟨a5, c5, rfl, ht5⟩ := hf
    refine zst ?_
    refine WU.stp0 rfl rfl (stp_store_whole rfl rfl rfl rfl) ?_
    rintro _ w5 u5
    refine zst ?_
    have x5 := u5.ext (x2.trans x24) (by omega)
    refine finct (.inl rfl) rfl rfl rfl ⟨⟨a5, c5, rfl, ?_⟩, x5⟩
    have z5 := u5.size
    have z2 := x2.size
    exact (ht5.upd u5 fun hb => hb.elim (fun h => by omega) fun h => by have := n2.size; omega).mono fun b hb => hb.elim (fun h => by omega) fun h => by have := h.2; omega
theorem c_named {L : List Mi} {a : Option Addr} {n c : Nat} {w : World} (h : SlC w (fun b => b < w.heap.size) 3 a n fun i => (L.map miC).getD i []) (hn : n ≤ L.length) (hL : L.length ≤ 1073741824) (x : Mi) (hne : ∀ (j : Nat) y, j < n → L[j]? = some y → ¬ (y.name.toList = x.name.toList ∧ y.pk = x.pk)) :
    Calls Tryz.prog 32 #[.slice a n c, .agg (miC x).toArray] w (Ret fun r w' => r = .bool false ∧ Ext w w') := by
  refine W.enter (args := [.slice a n c, .agg (miC x).toArray]) Tryz.func32 rfl Tryz.ntmps32 rfl rfl ?_
  refine zst ?_
  refine WU.stp rfl rfl rfl (by first | exact stp_box rfl rfl | exact stp_box1 rfl rfl) ?_
  rintro _ w1 ⟨b1, rfl, n1⟩
  have ib1 : Has w1 b1 (.cells (miC x).toArray 51) := n1.has
  refine zst ?_
  refine W.loop (σ := Nat) (fun k => [(9, .int .i64 k), (8, .int .i64 n), (7, .slice a n c), (3, pt b1), (4, .bool false)])
    (fun k D' wr => D' = [] ∧ k ≤ n ∧ Ext w1 wr) (fun k => n - k) 0 ⟨rfl, Nat.zero_le _, Ext.rfl' _⟩ (by exact sub_of ⟨rfl, rfl, rfl, rfl, rfl, trivial⟩) ?_
  rintro k D' wr ⟨rfl, hk, xr⟩
  have jb1 := ib1.ext' xr
  refine zst ?_
  by_cases hlt : k < n
  · rw [show decide ((k : Int) < (n : Int)) = true by simpa using hlt]
    have hy := List.getElem?_eq_getElem (l := L) (i := k) (by omega)
    generalize L[k] = y at hy
    obtain ⟨bo, o, rfl, _, hc⟩ := h k hlt
    replace hc : Cells wr bo (o + k * 3) (miC y) := by
      have e : (L.map miC).getD k [] = miC y := by rw [List.getD_eq_getElem?_getD, List.getElem?_map, hy]; rfl
      rw [← e]; exact hc.ext (n1.ext.trans xr)
    refine zst ?_
    refine WU.yld rfl rfl rfl (yld_load_cells (l := miC y) rfl hc) ?_
    refine WU.stp rfl rfl rfl stp_alloc ?_
    rintro _ w3 ⟨b3, rfl, n3⟩
    refine WU.stp0 rfl rfl (stp_store_whole rfl rfl rfl rfl) ?_
    rintro _ w4 u4
    have i3 : Has w4 b3 (.cells (miC y).toArray 51) := u4.has
    have x4 : Ext wr w4 := (u4.ofNew n3).ext
    have kb1 := jb1.ext' x4
    clear u4 n3
    refine zst ?_
    cases e1 : (y.name.toList == x.name.toList)
    · refine zst ?_
      exact ⟨k + 1, by omega, ⟨rfl, by omega, xr.trans x4⟩, sub_of ⟨rfl, rfl, rfl, rfl, rfl, trivial⟩⟩
    · have e2 : (y.pk == x.pk) = false := by
        cases e2 : (y.pk == x.pk)
        · rfl
        · exact absurd ⟨by simpa using e1, by simpa using e2⟩ (hne k y hlt hy)
      refine zst ?_
      rw [e2]
      refine zst ?_
      exact ⟨k + 1, by omega, ⟨rfl, by omega, xr.trans x4⟩, sub_of ⟨rfl, rfl, rfl, rfl, rfl, trivial⟩⟩
  · rw [show decide ((k : Int) < (n : Int)) = false by simpa using hlt]
    refine zst ?_
    exact fin1 (.inl rfl) rfl rfl ⟨rfl, n1.ext.trans xr⟩
end Go.Proofs.YtlemfkbhcleopaaGreatDoor
namespace Go.Proofs.YtlemfkbhcleopaaGreatDoor.Law
open Go Go.Kd
set_option maxRecDepth 100000

set_option maxHeartbeats 2000000 in
theorem c_FnMethods {D : List De} {a : Option Addr} {cp : Nat} {t1 : Ty} {a1 : Option Addr} {c1 : Nat} {t2 : Ty} {a2 : Option Addr} {c2 : Nat} {w : World} (hp : Prp w) (hwd : wtD D ≤ 1048576) (hw1 : wt t1 ≤ 1048576) (hw2 : wt t2 ≤ 1048576) (hd : DsV w (fun b => b < w.heap.size) (.slice a D.length cp) D) (ht1 : TysV w (fun b => b < w.heap.size) a1 c1 t1.elems) (ht2 : TysV w (fun b => b < w.heap.size) a2 c2 t2.elems) :
    Calls Tryz.prog 10 #[.slice a D.length cp, .agg (tyc t1 a1 c1).toArray, .agg (tyc t2 a2 c2).toArray] w (Ret fun r w' => r = .bool true ∧ Ext w w') := by
  have hDl : D.length ≤ 16777216 := by have := len_wtD D; omega
  have lw : LW D a cp w := ⟨hp, hd⟩
  have T1 : TvV w (.agg (tyc t1 a1 c1).toArray) t1 := ⟨⟨_, _, rfl, ht1⟩⟩
  have T2 : TvV w (.agg (tyc t2 a2 c2).toArray) t2 := ⟨⟨_, _, rfl, ht2⟩⟩
  have x0 : Ext w w := Ext.rfl' w
  refine W.enter (args := [.slice a D.length cp, .agg (tyc t1 a1 c1).toArray, .agg (tyc t2 a2 c2).toArray]) Tryz.func10 rfl Tryz.ntmps10 rfl rfl ?_
  refine zst ?_
  refine WU.stp rfl rfl rfl (by first | exact stp_box rfl rfl | exact stp_box1 rfl rfl) ?_
  rintro _ w1 ⟨b1, rfl, n1⟩
  replace lw := lw.ext n1.ext
  replace T1 := T1.ext n1.ext
  replace T2 := T2.ext n1.ext
  replace x0 := x0.trans n1.ext
  have ib1 : Has w1 b1 (.cells (tyc t1 a1 c1).toArray 26) := n1.has
  refine zst ?_
  refine WU.stp rfl rfl rfl (by first | exact stp_box rfl rfl | exact stp_box1 rfl rfl) ?_
  rintro _ w2 ⟨b2, rfl, n2⟩
  replace lw := lw.ext n2.ext
  replace T1 := T1.ext n2.ext
  replace T2 := T2.ext n2.ext
  replace ib1 := ib1.ext' n2.ext
  replace x0 := x0.trans n2.ext
  have ib2 : Has w2 b2 (.cells (tyc t2 a2 c2).toArray 26) := n2.has
  refine zst ?_
  rw [show decide ((2147483647 : Int) < (D.length : Int)) = false by simp; omega]
  refine zst ?_
  refine WU.stp rfl rfl rfl (stp_call rfl (c_zzFits1 t1 a1 c1 _ (by omega))) ?_
  rintro _ w3 ⟨rfl, x3⟩
  replace lw := lw.ext x3
  replace T1 := T1.ext x3
  replace T2 := T2.ext x3
  replace ib1 := ib1.ext' x3
  replace ib2 := ib2.ext' x3
  replace x0 := x0.trans x3
  refine zst ?_
  refine WU.stp rfl rfl rfl (stp_call rfl (c_zzFits1 t2 a2 c2 _ (by omega))) ?_
  rintro _ w4 ⟨rfl, x4⟩
  replace lw := lw.ext x4
  replace T1 := T1.ext x4
  replace T2 := T2.ext x4
  replace ib1 := ib1.ext' x4
  replace ib2 := ib2.ext' x4
  replace x0 := x0.trans x4
  refine zst ?_
  refine WU.stp rfl rfl rfl (stp_buildSlice rfl rfl rfl rfl rfl) ?_
  rintro _ w5 ⟨r5, rfl, n5⟩
  replace lw := lw.ext n5.ext
  replace T1 := T1.ext n5.ext
  replace T2 := T2.ext n5.ext
  replace ib1 := ib1.ext' n5.ext
  replace ib2 := ib2.ext' n5.ext
  replace x0 := x0.trans n5.ext
  have hr : Has w5 r5 (.cells (tyc t1 a1 c1 ++ tyc t2 a2 c2).toArray 26) := n5.has
  refine zst ?_
  refine WU.stp rfl rfl rfl (stp_call rfl (t_Valid2 lw hwd hr rfl rfl T1 T2 (by omega) (by omega))) ?_
  rintro _ w6 ⟨v, rfl, hv, x6⟩
  replace lw := lw.ext x6
  replace T1 := T1.ext x6
  replace T2 := T2.ext x6
  replace ib1 := ib1.ext' x6
  replace ib2 := ib2.ext' x6
  replace x0 := x0.trans x6
  cases v with
  | false =>
    refine zst ?_
    exact fin1 (.inl rfl) rfl rfl ⟨rfl, x0⟩
  | true =>
    obtain ⟨hV, hT, hU⟩ := hv rfl
    have hok := okD hV hwd
    obtain ⟨x, V⟩ := VX.ofT hok hV (n := 1048576) hT hw1 (by decide)
    obtain ⟨y, U⟩ := VX.ofT hok hV (n := 1048576) hU hw2 (by decide)
    refine zst ?_
    refine WU.stp rfl rfl rfl (stp_call rfl (c_IsInterface hok (hT.good (by omega)) a cp a1 c1 _ (fun b hb => hb) lw.hd T1.tys)) ?_
    rintro _ w7 ⟨rfl, x7⟩
    replace lw := lw.ext x7
    replace T1 := T1.ext x7
    replace T2 := T2.ext x7
    replace ib1 := ib1.ext' x7
    replace ib2 := ib2.ext' x7
    replace x0 := x0.trans x7
    cases hi : isIfaceT D t1 with
    | false =>
      refine zst ?_
      exact fin1 (.inl rfl) rfl rfl ⟨rfl, x0⟩
    | true =>
      refine zst ?_
      refine WU.stp rfl rfl rfl (stp_call rfl (c_iMethods (xf := y) lw.hp hV hT hU (by omega) (by omega) (by omega) hi U.ex lw.hd T1.tys T2.tys)) ?_
      rintro _ w8 ⟨x8, ms, ms0, L, a7, c7, hmt, hpm, hsr, hid, hLm, rfl, hLc, hmis, hok7⟩
      replace lw := lw.ext x8
      replace T1 := T1.ext x8
      replace T2 := T2.ext x8
      replace ib1 := ib1.ext' x8
      replace ib2 := ib2.ext' x8
      replace x0 := x0.trans x8
      have hGd := IM_good hok hmt (hT.good (by omega))
      have hLl : L.length ≤ 1073741824 := by have := IM_len' hok (hT.good (by omega)) hmt; have := hpm.length_eq; omega
      refine zst ?_
      refine W.loop (σ := Nat × ByteArray) (fun (k, s) => [(44, .int .i64 k), (43, .int .i64 L.length), (42, .slice a7 L.length c7), (7, .slice a7 L.length c7), (8, .string s), (0, .slice a D.length cp), (4, pt b1), (5, pt b2), (6, .bool false)])
        (fun (k, s) D' wr => D' = [] ∧ k ≤ L.length ∧ Ext w8 wr ∧ (s = E0 ∨ ∃ j m, j < k ∧ ms[j]? = some m ∧ expo m.name.toList = true ∧ s = m.name))
        (fun (k, _) => L.length - k) (0, E0) ⟨rfl, Nat.zero_le _, Ext.rfl' _, .inl rfl⟩ (by exact sub_of ⟨rfl, rfl, rfl, rfl, rfl, rfl, rfl, rfl, rfl, trivial⟩) ?_
      rintro ⟨k, s⟩ D' wr ⟨rfl, hk, xr, hs⟩
      replace lw := lw.ext xr
      replace T1 := T1.ext xr
      replace T2 := T2.ext xr
      replace ib1 := ib1.ext' xr
      replace ib2 := ib2.ext' xr
      replace x0 := x0.trans xr
      replace hmis : SlC wr (fun b => b < w8.heap.size) 3 a7 L.length fun i => (L.map miC).getD i [] := hmis.ext xr
      refine zst ?_
      by_cases hlt : k < L.length
      · rw [show decide ((k : Int) < (L.length : Int)) = true by simpa using hlt]
        have hx := List.getElem?_eq_getElem hlt
        generalize L[k] = q at hx
        obtain ⟨m, hm⟩ : ∃ m, ms[k]? = some m := ⟨_, List.getElem?_eq_getElem (by omega)⟩
        have hq := hok7 k m q hm hx
        have hidm := hid m (List.mem_of_getElem? hm)
        obtain ⟨bo, o, rfl, _, hc⟩ := hmis k hlt
        replace hc : Cells wr bo (o + k * 3) (miC q) := by
          have e : (L.map miC).getD k [] = miC q := by rw [List.getD_eq_getElem?_getD, List.getElem?_map, hx]; rfl
          rw [← e]; exact hc
        refine zst ?_
        refine WU.yld rfl rfl rfl (yld_load_cells (l := miC q) rfl hc) ?_
        refine WU.stp rfl rfl rfl stp_alloc ?_
        rintro _ w30 ⟨b10, rfl, n30⟩
        refine zst ?_
        refine WU.stp0 rfl rfl (stp_store_whole rfl rfl rfl rfl) ?_
        rintro _ w31 u31
        have i10 : Has w31 b10 (.cells (miC q).toArray 51) := u31.has
        have x31 : Ext wr w31 := (u31.ofNew n30).ext
        clear u31 n30
        replace lw := lw.ext x31
        replace T1 := T1.ext x31
        replace T2 := T2.ext x31
        replace ib1 := ib1.ext' x31
        replace ib2 := ib2.ext' x31
        replace x0 := x0.trans x31
        refine zst ?_
        refine WU.stp rfl rfl rfl (stp_call rfl (c_Find hok a cp hmt (hT.good (by omega)) q.name q.pk a1 c1 _ lw.hd T1.tys)) ?_
        rintro rq w32 ⟨hf, x32⟩
        replace lw := lw.ext x32
        replace T1 := T1.ext x32
        replace T2 := T2.ext x32
        replace ib1 := ib1.ext' x32
        replace ib2 := ib2.ext' x32
        replace i10 := i10.ext' x32
        replace x0 := x0.trans x32
        rw [find_mi hsr hpm hm hq] at hf
        obtain ⟨a8, c8, rfl, ht8⟩ := hf
        refine zst ?_
        refine WU.stp rfl rfl rfl stp_alloc ?_
        rintro _ w33 ⟨b11, rfl, n33⟩
        refine zst ?_
        refine WU.stp0 rfl rfl (stp_store_whole rfl rfl rfl rfl) ?_
        rintro _ w34 u34
        have i11 : Has w34 b11 (.cells (mtl m a8 c8).toArray 53) := u34.has
        have x34 : Ext w32 w34 := (u34.ofNew n33).ext
        clear u34 n33
        replace lw := lw.ext x34
        replace T1 := T1.ext x34
        replace T2 := T2.ext x34
        replace ib1 := ib1.ext' x34
        replace ib2 := ib2.ext' x34
        replace i10 := i10.ext' x34
        replace x0 := x0.trans x34
        refine zst ?_
        refine W.regD [(0, .q), (1, .q), (2, .q), (3, .q), (4, .q), (5, .q), (6, .q), (7, .q), (8, .q), (9, .l), (10, .q), (11, .q), (12, .q), (13, .q), (14, .q), (15, .q), (16, .q), (17, .l), (18, .q)] (by kernel_rfl) (by kernel_rfl) rfl ?_
        intro w35 x35 _
        replace lw := lw.ext x35
        replace T1 := T1.ext x35
        replace T2 := T2.ext x35
        replace ib1 := ib1.ext' x35
        replace ib2 := ib2.ext' x35
        replace i10 := i10.ext' x35
        replace i11 := i11.ext' x35
        replace x0 := x0.trans x35
        have ht9 := (ht8.ext (x34.trans x35)).mono fun b hb => by have := (x34.trans x35).size; exact Nat.lt_of_lt_of_le hb this
        have hc11 : Cells w35 b11 2 (tyc m.fn a8 c8) := (Cells.has (cs := mtl m a8 c8) i11).part (k := 2) fun j u hu => by
          rw [← List.getElem?_drop]; exact hu
        have hmem : m ∈ ms0 := hpm.mem_iff.1 (List.mem_of_getElem? hm)
        obtain ⟨z, hz⟩ := (hGd m hmem).exp hok
        refine zsd ?_
        refine WD.yld rfl rfl rfl rfl (yld_load_cells (l := tyc m.fn a8 c8) rfl hc11) ?_
        refine zsd ?_
        refine WD.stp rfl rfl rfl rfl (stp_call rfl (c_Identical hok a cp true hz (hGd m hmem) t2 y U.ex (hU.good (by omega)) a8 c8 a2 c2 _ (fun b => b < w35.heap.size) (fun b hb => hb) lw.hd ht9 T2.tys)) ?_
        rintro _ w36 ⟨rfl, x36⟩
        refine ⟨by first | assumption | exact Ext.rfl' _ | infer_instance, ?_⟩
        replace lw := lw.ext x36
        replace T1 := T1.ext x36
        replace T2 := T2.ext x36
        replace ib1 := ib1.ext' x36
        replace ib2 := ib2.ext' x36
        replace i10 := i10.ext' x36
        replace x0 := x0.trans x36
        refine zsd ?_
        rw [hq.2.2 z hz]
        rw [show (!(idX true z y == idX true z y)) = false by simp]
        have x06 := (x31.trans (x32.trans (x34.trans (x35.trans x36))))
        have hmis36 := (hmis.ext x06).mono (q := fun b => b < w36.heap.size) fun b hb => by have := xr.size; have := x06.size; omega
        refine zsd ?_
        refine WD.stp rfl rfl rfl rfl (stp_call rfl (c_named (hmis36.take (m := (k : Int).toNat) (by simp; omega)) (by simp; omega) hLl q fun j y' hj hy' => by
                    rw [Int.toNat_natCast] at hj
                    obtain ⟨m', hm'⟩ : ∃ m, ms[j]? = some m := ⟨_, List.getElem?_eq_getElem (by omega)⟩
                    intro ⟨h1, h2⟩
                    have := miOk_ne hsr hm' hm (hok7 j m' y' hm' hy') hq h1 h2 (hid m' (List.mem_of_getElem? hm')).2 hidm.2
                    omega)) ?_
        rintro _ w37 ⟨rfl, x37⟩
        refine ⟨by first | assumption | exact Ext.rfl' _ | infer_instance, ?_⟩
        replace lw := lw.ext x37
        replace T1 := T1.ext x37
        replace T2 := T2.ext x37
        replace ib1 := ib1.ext' x37
        replace ib2 := ib2.ext' x37
        replace i10 := i10.ext' x37
        replace x0 := x0.trans x37
        have x07 := xr.trans (x06.trans x37)
        refine zsd ?_
        (repeat ((fail_if_success guard_target =~ gW (.seq (.region 13 _ _) _)); (fail_if_success guard_target =~ gW (.seq (.seq (.region 13 _ _) _) _)); refine zs1 ?_))
        refine W.cut [(87, .bool (expo q.name.toList)), (44, .int .i64 k), (43, .int .i64 L.length), (42, .slice (some ⟨bo, o, none⟩) L.length c7), (7, .slice (some ⟨bo, o, none⟩) L.length c7), (8, .string s), (0, .slice a D.length cp), (4, pt b1), (5, pt b2), (10, pt b10), (6, .bool false)] ?_ ?_
        · refine zst ?_
          obtain ⟨c, l, hcl⟩ : ∃ c l, q.name.toList = c :: l := by
            cases h : q.name.toList with
            | nil => exact absurd (by rw [← hq.1]; exact h) hidm.1.ne
            | cons c l => exact ⟨c, l, rfl⟩
          refine WU.yld rfl rfl rfl (yld_index_str (i := 0) rfl rfl (by rw [hcl]; rfl)) ?_
          refine zst ?_
          rw [hcl]
          cases h1 : decide ((c.toNat : Int) ≥ 65)
          · have hx : expo (c :: l) = false := by simp at h1; simp [expo]; omega
            rw [hx]
            refine zst ?_
            exact ⟨rfl, rfl, rfl, rfl, rfl, rfl, rfl, rfl, rfl, rfl, rfl, rfl, rfl, trivial⟩
          · refine zst ?_
            refine WU.yld rfl rfl rfl (yld_index_str (i := 0) rfl rfl (by rw [hcl]; rfl)) ?_
            refine zst ?_
            have h1' : 65 ≤ c.toNat := by simp at h1; omega
            have hx : expo (c :: l) = decide ((c.toNat : Int) ≤ 90) := by
              by_cases h2 : c.toNat ≤ 90
              · simp [expo, h1', h2]; omega
              · simp [expo, h2]; omega
            rw [hx]
            exact ⟨rfl, rfl, rfl, rfl, rfl, rfl, rfl, rfl, rfl, rfl, rfl, rfl, rfl, trivial⟩
        cases hx : expo q.name.toList
        · refine zst ?_
          exact ⟨(k + 1, s), by show L.length - (k + 1) < L.length - k; omega, ⟨rfl, by omega, x07, hs.imp id fun ⟨j, m', h1, h2⟩ => ⟨j, m', by omega, h2⟩⟩, sub_of ⟨rfl, rfl, rfl, rfl, rfl, rfl, rfl, rfl, rfl, trivial⟩⟩
        · refine zst ?_
          refine WU.yld rfl rfl rfl (yld_leq_str rfl rfl) ?_
          rw [show (Op.bytesLess q.name.toList s.toList || q.name.toList == s.toList) = false by
            rcases hs with rfl | ⟨j, m', h1, h2, h3, rfl⟩
            · have hne : q.name.toList ≠ [] := by rw [hq.1]; exact hidm.1.ne
              rw [E0_list]
              cases h : q.name.toList with
              | nil => exact absurd h hne
              | cons c l => simp [Op.bytesLess]
            · rw [hq.1]
              exact srtd_expo hsr h1 h2 hm h3 (by rw [← hq.1]; exact hx)]
          refine zst ?_
          exact ⟨(k + 1, q.name), by show L.length - (k + 1) < L.length - k; omega, ⟨rfl, by omega, x07, .inr ⟨k, m, by omega, hm, by rw [← hq.1]; exact hx, hq.1⟩⟩, sub_of ⟨rfl, rfl, rfl, rfl, rfl, rfl, rfl, rfl, rfl, trivial⟩⟩
      · rw [show decide ((k : Int) < (L.length : Int)) = false by simpa using hlt]
        refine zst ?_
        refine WU.stp rfl rfl rfl (stp_call rfl (c_InterfaceMethods hok a cp hmt (hT.good (by omega)) a1 c1 _ (fun b => b < wr.heap.size) (fun b hb => hb) lw.hd T1.tys)) ?_
        rintro rl w38 ⟨hrl, x38⟩
        obtain ⟨al, cl, rfl⟩ := hrl.shape
        replace x0 := x0.trans x38
        refine zst ?_
        exact fin1 (.inl rfl) rfl rfl ⟨by have := hpm.length_eq; simp; omega, x0⟩
end Go.Proofs.YtlemfkbhcleopaaGreatDoor.Law

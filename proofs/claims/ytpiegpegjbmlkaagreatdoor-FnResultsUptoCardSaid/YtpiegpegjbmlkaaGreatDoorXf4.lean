/- The walks and the plain laws, part 4. -/
import Derived.Test.YtpiegpegjbmlkaaGreatDoorXf2
import Derived.Test.YtpiegpegjbmlkaaGreatDoorXf1
import Derived.Deep.Upon
import Derived.Test.YtpiegpegjbmlkaaGreatDoorXf3
namespace Go.Proofs.YtpiegpegjbmlkaaGreatDoor
open Go Go.Kd
set_option maxRecDepth 100000

/-! ### The list that is being built -/
def rr (w wk : World) (p : Nat → Prop) (v : Value) (b : Nat) : Prop := p b ∨ (w.heap.size ≤ b ∧ b < wk.heap.size ∧ v.ownBlock ≠ some b)
structure OutI (w wk : World) (p : Nat → Prop) (base : Nat) (v : Value) (l : List Mt) : Prop where
  out : ∃ ls, Own wk base 148 10 v ls ∧ ls.length = l.length ∧ ∀ (i : Nat) m cs, l[i]? = some m → ls[i]? = some cs → MtV wk (rr w wk p v) cs m
theorem OutI.nil (w wk : World) (p : Nat → Prop) (base : Nat) : OutI w wk p base (.slice none 0 0) [] := ⟨[], Own.nil .., rfl, fun i m cs h => by simp at h⟩
theorem OutI.ext {w wk wk' : World} {p : Nat → Prop} {base : Nat} {v : Value} {l : List Mt} (x : Ext wk wk') (h : OutI w wk p base v l) : OutI w wk' p base v l := by
  obtain ⟨ls, h1, h2, h3⟩ := h
  refine ⟨ls, h1.ext x, h2, fun i m cs hm hc => ((h3 i m cs hm hc).ext x).mono fun b hb => ?_⟩
  rcases hb with hb | ⟨g1, g2, g3⟩
  · exact .inl hb
  · exact .inr ⟨g1, by have := x.size; omega, g3⟩
theorem OutI.lt {w wk : World} {p : Nat → Prop} {base : Nat} {v : Value} {l : List Mt} (h : OutI w wk p base v l) : ∀ k, v.ownBlock = some k → base ≤ k ∧ k < wk.heap.size := by
  obtain ⟨ls, h1, _⟩ := h; exact h1.lt
/-- as a slice of methods -/
theorem OutI.mts {w wk : World} {p : Nat → Prop} {base : Nat} {v : Value} {l : List Mt} (hb : w.heap.size ≤ base) (h : OutI w wk p base v l) : MtsV wk (btw w wk p) v l := by
  have hlt := h.lt
  obtain ⟨ls, h1, h2, h3⟩ := h
  obtain ⟨a, cp, h4, h5, h6⟩ := h1.shape
  refine ⟨a, cp, fun i => ls.getD i [], by rw [h4, h2], by rw [← h2]; exact h6.mono fun b hb' => .inr (by have := hlt b hb'; omega), fun i m hm => ?_⟩
  have hi : i < ls.length := by rw [h2]; exact (List.getElem?_eq_some_iff.1 hm).1
  have hd : ls.getD i [] = ls[i] := by simp [List.getD, hi]
  show MtV wk _ (ls.getD i []) m
  rw [hd]
  refine (h3 i m _ hm (List.getElem?_eq_getElem hi)).mono fun b hb' => ?_
  rcases hb' with hb' | ⟨g1, g2, _⟩
  · exact .inl hb'
  · exact .inr ⟨g1, g2⟩
/-- one more -/
theorem OutI.push {ls : List (List Value)} {w wk w' : World} {p : Nat → Prop} (hp : ∀ b, p b → b < w.heap.size) {base : Nat} {v v' : Value} {l : List Mt} {m : Mt} {cs : List Value} (hw : w.heap.size ≤ base) (hbk : base ≤ wk.heap.size) (h1 : Own wk base 148 10 v ls) (h2 : ls.length = l.length) (h3 : ∀ (i : Nat) m cs, l[i]? = some m → ls[i]? = some cs → MtV wk (rr w wk p v) cs m)
    (hm : MtV wk (rr w wk p v) cs m) (ha : App wk w' v) (hn : Own w' base 148 10 v' (ls ++ [cs])) (hg : ∀ g, v'.ownBlock = some g → v.ownBlock = some g ∨ g = wk.heap.size) : OutI w w' p base v' (l ++ [m]) := by
  have hlt := h1.lt
  have hsm : ∀ b, rr w wk p v b → w'.heap[b]? = wk.heap[b]? := fun b hb => by
    rcases hb with hb | ⟨g1, g2, g3⟩
    · exact ha.block b (by have := hp b hb; omega) (fun e => by have := hlt b e.symm; have := hp b hb; omega)
    · exact ha.block b g2 (fun e => g3 e.symm)
  have hmn : ∀ b, rr w wk p v b → rr w w' p v' b := fun b hb => by
    rcases hb with hb | ⟨g1, g2, g3⟩
    · exact .inl hb
    · refine .inr ⟨g1, by have := ha.size; omega, fun e => ?_⟩
      rcases hg b e with h | h
      · exact g3 h
      · omega
  refine ⟨ls ++ [cs], hn, by simp [h2], fun i m' cs' hm' hc' => ?_⟩
  rw [List.getElem?_append] at hm' hc'
  by_cases hi : i < l.length
  · rw [if_pos hi] at hm'
    rw [if_pos (by omega)] at hc'
    exact ((h3 i m' cs' hm' hc').same hsm).mono hmn
  · rw [if_neg hi] at hm'
    rw [if_neg (by omega)] at hc'
    rw [List.getElem?_singleton] at hm' hc'
    split at hm'
    · rename_i h0
      rw [if_pos (by omega)] at hc'
      cases hm'; cases hc'
      exact (hm.same hsm).mono hmn
    · cases hm'

theorem merge_app (c : Int) : ∀ (k : Nat) (L L' : List (List Mt)) (out : List Mt), mergeM c k (L ++ L') out = mergeM c (k + L.length) L' (mergeM c k L out)
  | k, [], L', out => rfl
  | k, l :: L, L', out => by
    simp only [List.cons_append, mergeM, List.length_cons]
    rw [merge_app c (k + 1) L L']
    congr 1
    omega
theorem merge_snoc (c : Int) {L : List (List Mt)} {i : Nat} {l : List Mt} (hl : L[i]? = some l) : mergeM c 0 (L.take (i + 1)) [] = if (i : Int) < c then mergeM c 0 (L.take i) [] ++ l else l.foldl addM (mergeM c 0 (L.take i) []) := by
  have hi : i < L.length := (List.getElem?_eq_some_iff.1 hl).1
  rw [List.take_add_one, hl]
  simp only [Option.toList]
  rw [merge_app]
  have : (L.take i).length = i := by simp; omega
  rw [this]
  simp [mergeM]
theorem fold_snoc {ms : List Mt} {j : Nat} {m : Mt} (hm : ms[j]? = some m) (out : List Mt) : (ms.take (j + 1)).foldl addM out = addM ((ms.take j).foldl addM out) m := by
  rw [List.take_add_one, hm]
  simp
theorem mono_len (c : Int) : ∀ (k : Nat) (L : List (List Mt)) (out : List Mt), out.length ≤ (mergeM c k L out).length
  | _, [], out => Nat.le_refl _
  | k, l :: L, out => by
    have hf : ∀ (l out : List Mt), out.length ≤ (l.foldl addM out).length := by
      intro l
      induction l with
      | nil => intro out; exact Nat.le_refl _
      | cons m l ih =>
        intro out
        refine Nat.le_trans ?_ (ih _)
        unfold addM; split
        · exact Nat.le_refl _
        · simp
    refine Nat.le_trans ?_ (mono_len c (k + 1) L _)
    split
    · simp
    · exact hf l out
theorem fold_len : ∀ (l out : List Mt), out.length ≤ (l.foldl addM out).length
  | [], out => Nat.le_refl _
  | m :: l, out => by
    refine Nat.le_trans ?_ (fold_len l _)
    unfold addM; split
    · exact Nat.le_refl _
    · simp
/-- no list on the way is longer than the last -/
theorem part_len (c : Int) {L : List (List Mt)} {i : Nat} : (mergeM c 0 (L.take i) []).length ≤ (mergeM c 0 L []).length := by
  have h := merge_app c 0 (L.take i) (L.drop i) []
  rw [List.take_append_drop] at h
  rw [h]
  exact mono_len ..
theorem part_len2 {L : List Mt} {i : Nat} {out : List Mt} : ((L.take i).foldl addM out).length ≤ (L.foldl addM out).length := by
  have h := List.foldl_append (f := addM) (b := out) (l := L.take i) (l' := L.drop i)
  rw [List.take_append_drop] at h
  rw [h]
  exact fold_len ..
theorem addM_find {out : List Mt} {m : Mt} : addM out m = if (findM out m.name.toList m.pkg).isSome then out else out ++ [m] := rfl
theorem mtl_one (m : Mt) (a : Option Addr) (c : Nat) : ∀ u ∈ mtl m a c, u.oneCell' = true := by
  intro u hu
  simp only [List.mem_cons, List.not_mem_nil, or_false] at hu
  rcases hu with rfl | rfl | rfl | rfl | rfl | rfl | rfl | rfl | rfl | rfl <;> rfl

theorem Stp.mono {P : Program} {e : Env} {o : Oper} {w : World} {R R' : Value → World → Prop} (h : Stp P e o w R) (hr : ∀ v w', R v w' → R' v w') : Stp P e o w R' := ⟨fun ρ hρ => by
  have := h.out ρ hρ
  split at this
  · exact hr _ _ this
  · exact hr _ _ this
  · exact this.mono fun x w'' ⟨v, h1, h2⟩ => ⟨v, h1, hr v w'' h2⟩
  · exact this⟩

theorem stp_push {e : Env} {d : Option Tmp} {ty : TypeId} {pos : String} {aft : Array Edge} {g : Option (Nat × Bool)} {x y : Operand} {w wk : World} {p : Nat → Prop} (hp : ∀ b, p b → b < w.heap.size) {base : Nat} {v : Value} {l : List Mt} {m : Mt} {a : Option Addr} {c b c' : Nat}
    (hx : ev e x = some v) (hy : ev e y = some (.slice (some ⟨b, 0, none⟩) 1 c')) (hw : w.heap.size ≤ base) (hbk : base ≤ wk.heap.size) (h : OutI w wk p base v l) (hc : Cells wk b 0 (mtl m a c)) (hm : TysV wk (rr w wk p v) a c m.fn.elems) (hn : l.length ≤ 1073741824) :
    Stp Tryz.prog e ⟨d, .call ⟨.builtin .append, #[x, y], #[145, 145]⟩, ty, pos, aft, g⟩ wk (fun v' w' => OutI w w' p base v' (l ++ [m]) ∧ App wk w' v ∧ (∀ w0, Ext w0 wk → w0.heap.size ≤ base → Ext w0 w') ∧ (∀ g, v'.ownBlock = some g → v.ownBlock = some g ∨ g = wk.heap.size)) := by
  obtain ⟨ls, h1, h2, h3⟩ := h
  refine Stp.mono (stp_append1 (sz := 10) hx hy h1 hc rfl rfl (by decide) (mtl_one m a c) (by omega) hbk) fun v' w' ⟨k1, k2, k3⟩ => ⟨OutI.push hp hw hbk h1 h2 h3 ⟨a, c, rfl, hm⟩ k2 k1 k3, k2, fun w0 x hb => k2.ext h1 x hb, k3⟩

set_option maxHeartbeats 4000000 in
theorem c_InterfaceMethods {D : List De} (hD : OkD D) (a : Option Addr) (cp : Nat) {t : Ty} {ms : List Mt} (hI : IM D t ms) : Good D t → ∀ (a1 : Option Addr) (c1 : Nat) (w : World) (p : Nat → Prop), (∀ b, p b → b < w.heap.size) → DsV w p (.slice a D.length cp) D → TysV w p a1 c1 t.elems →
    Calls Tryz.prog 93 #[.slice a D.length cp, .agg (tyc t a1 c1).toArray] w (Ret fun r w' => MtsV w' (btw w w' p) r ms ∧ Ext w w') := by
  induction hI with
  | no t hk =>
    intro hG a1 c1 w p hp hd ht
    refine W.enter (args := [.slice a D.length cp, .agg (tyc t a1 c1).toArray]) Tryz.func93 rfl Tryz.ntmps93 rfl rfl ?_
    refine zst ?_
    refine WU.stp rfl rfl rfl (by first | exact stp_box rfl rfl | exact stp_box1 rfl rfl) ?_
    rintro _ w1 ⟨b1, rfl, n1⟩
    refine zst ?_
    have e1 := n1.num
    have s1 := n1.size
    refine WU.stp rfl rfl rfl (stp_call rfl (c_Underlying hD hG a cp a1 c1 w1 (fun b hb => by have := hp b hb; omega) (hd.ext n1.ext) (ht.ext n1.ext))) ?_
    rintro _ w2 ⟨a2, c2, rfl, ht2, x2⟩
    generalize underT D t = u at hk ht2
    have h1 : Has w2 b1 _ := n1.has.ext' x2
    refine WU.stp0 rfl rfl (stp_store_whole rfl rfl rfl rfl) ?_
    rintro _ w3 u3
    refine zst ?_
    rw [show (u.kind != 9) = true by simpa using hk]
    refine zst ?_
    exact fin1 (.inl rfl) rfl rfl ⟨⟨none, 0, fun _ => [], rfl, fun i h => by simp at h, fun i m h => by simp at h⟩, u3.ext (n1.ext.trans x2) (by omega)⟩
  | yes t L hk hL h1 h2 ih =>
    intro hG a1 c1 w p hp hd ht
    obtain ⟨gi, gv, hgi, hgs⟩ := hG.sh
    have hlen := IM_len hD.sh (IM.yes t L hk hL h1 h2) hgi hgs
    have hwt := hG.wt
    have hwD := hD.wt
    have hGu := hG.under hD
    have hulen := wt_len (underT D t)
    have hwu := hGu.wt
    refine W.enter (args := [.slice a D.length cp, .agg (tyc t a1 c1).toArray]) Tryz.func93 rfl Tryz.ntmps93 rfl rfl ?_
    refine zst ?_
    refine WU.stp rfl rfl rfl (by first | exact stp_box rfl rfl | exact stp_box1 rfl rfl) ?_
    rintro _ w1 ⟨b1, rfl, n1⟩
    refine zst ?_
    have e1 := n1.num
    have s1 := n1.size
    refine WU.stp rfl rfl rfl (stp_call rfl (c_Underlying hD hG a cp a1 c1 w1 (fun b hb => by have := hp b hb; omega) (hd.ext n1.ext) (ht.ext n1.ext))) ?_
    rintro _ w2 ⟨a2, c2, rfl, ht2, x2⟩
    generalize underT D t = u at *
    have hb1 : Has w2 b1 _ := n1.has.ext' x2
    have s2 := x2.size
    refine WU.stp0 rfl rfl (stp_store_whole rfl rfl rfl rfl) ?_
    rintro _ w3 u3
    have s3 := u3.size
    have x03 : Ext w w3 := u3.ext (n1.ext.trans x2) (by omega)
    have ht3 : TysV w3 (btw w1 w2 p) a2 c2 u.elems := ht2.upd u3 (fun h => by
      rcases h with h | h
      · have := hp _ h; omega
      · omega)
    have hd3 : DsV w3 (btw w1 w2 p) (.slice a D.length cp) D := (hd.ext x03).mono fun b hb => .inl hb
    have hb3 : Has w3 b1 _ := u3.has
    clear u3 hb1 ht2
    refine zst ?_
    rw [show (u.kind != 9) = false by simpa using hk]
    refine zst ?_
    have hpp : ∀ b, btw w1 w2 p b → b < w3.heap.size := fun b hb => by
      rcases hb with hb | hb
      · have := hp b hb; omega
      · omega
    refine W.loop (σ := Nat × Value) (fun (i, v) => [(21, .int .i64 i), (20, .int .i64 u.elems.length), (19, .slice a2 u.elems.length c2), (5, v), (3, .pointer (some ⟨b1, 0, none⟩)), (0, .slice a D.length cp)])
      (fun (i, v) D' wk => D' = [] ∧ i ≤ u.elems.length ∧ Ext w3 wk ∧ OutI w3 wk (btw w1 w2 p) w3.heap.size v (mergeM u.count 0 (L.take i) []))
      (fun (i, _) => u.elems.length - i) (0, .slice none 0 0) ⟨rfl, Nat.zero_le _, Ext.rfl' _, OutI.nil ..⟩ (by exact sub_of ⟨rfl, rfl, rfl, rfl, rfl, rfl, trivial⟩) ?_
    rintro ⟨i, v⟩ D' wk ⟨rfl, hi, xk, ho⟩
    have hsz := xk.size
    have hbk : Has wk b1 _ := hb3.ext' xk
    refine zst ?_
    have hfl : ∀ i, (mergeM u.count 0 (L.take i) []).length ≤ 1073741824 := fun i => by have := part_len u.count (L := L) (i := i); omega
    by_cases hlt : i < u.elems.length
    · rw [show decide ((i : Int) < (u.elems.length : Int)) = true by simpa using hlt]
      have he := List.getElem?_eq_getElem hlt
      have hlL : i < L.length := by omega
      have hl := List.getElem?_eq_getElem hlL
      generalize u.elems[i] = e at he
      generalize L[i] = l at hl
      have hsn := merge_snoc u.count hl
      have hfl0 := hfl i
      have hfl1 := hfl (i + 1)
      obtain ⟨b, o, a3, c3, rfl, hpb, hc, hte⟩ := ht3.next he
      have hc' : Cells wk b (o + i * 8) (tyc e a3 c3) := hc.ext xk
      refine zst ?_
      refine WU.yld rfl rfl rfl (yld_load_cells rfl hc') ?_
      refine WU.stp rfl rfl rfl stp_alloc ?_
      rintro _ w4 ⟨b4, rfl, n4⟩
      refine zst ?_
      refine WU.stp0 rfl rfl (stp_store_whole rfl rfl rfl rfl) ?_
      rintro _ w5 u5
      have e4 := n4.num
      have s4 := n4.size
      have s5 := u5.size
      have x45 : Ext wk w5 := (u5.ofNew n4).ext
      have hb5 : Has w5 b1 _ := hbk.ext' x45
      have hi4 : Has w5 b4 _ := u5.has
      have ho5 := ho.ext x45
      clear u5 n4
      refine zst ?_
      cases hct : decide ((i : Int) < u.count)
      · have hnc : ¬ (i : Int) < u.count := by simpa using hct
        rw [if_neg hnc] at hsn
        rw [hsn] at hfl1
        refine zst ?_
        have hll := IM_len hD.sh (h2 i e l he hl hnc) (hGu.el he).sh.choose_spec.choose_spec.1 (hGu.el he).sh.choose_spec.choose_spec.2
        have hwe := (hGu.el he).wt
        refine WU.stp rfl rfl rfl (stp_call rfl (ih i e l he hl hnc (hGu.el he) a3 c3 w5 (btw w1 w2 p) (fun b hb => by have := hpp b hb; omega) (hd3.ext (xk.trans x45)) (hte.ext (xk.trans x45)))) ?_
        rintro v6 w6 ⟨hm6, x6⟩
        obtain ⟨a6, c6, rfl⟩ := hm6.shape
        refine zst ?_
        have ho6 := ho5.ext x6
        have s6 := x6.size
        have hfin : (l.foldl addM (mergeM u.count 0 (L.take i) [])).length ≤ 1073741824 := hfl1
        have hnb : ∀ k, v.ownBlock = some k → ¬ btw w5 w6 (btw w1 w2 p) k := fun k hk hb => by
          have := ho.lt k hk
          rcases hb with hb | hb
          · have := hpp k hb; omega
          · omega
        refine W.loop (σ := Nat × Value) (fun (j, v) => [(43, .int .i64 j), (42, .int .i64 l.length), (41, .slice a6 l.length c6), (21, .int .i64 i), (20, .int .i64 u.elems.length), (19, .slice (some ⟨b, o, none⟩) u.elems.length c2), (5, v), (3, .pointer (some ⟨b1, 0, none⟩)), (0, .slice a D.length cp)])
          (fun (j, v) D' wk => D' = [] ∧ j ≤ l.length ∧ Ext w3 wk ∧ w6.heap.size ≤ wk.heap.size ∧ MtsV wk (btw w5 w6 (btw w1 w2 p)) (.slice a6 l.length c6) l ∧ OutI w3 wk (btw w1 w2 p) w3.heap.size v ((l.take j).foldl addM (mergeM u.count 0 (L.take i) [])) ∧
            ∀ k, v.ownBlock = some k → ¬ btw w5 w6 (btw w1 w2 p) k)
          (fun (j, _) => l.length - j) (0, v) ⟨rfl, Nat.zero_le _, xk.trans (x45.trans x6), Nat.le_refl _, hm6, ho6, hnb⟩ (by exact sub_of ⟨rfl, rfl, rfl, rfl, rfl, rfl, rfl, rfl, rfl, trivial⟩) ?_
        clear hm6 ho6 hnb ho5 ho hb5 hi4 hbk hc' hc
        rintro ⟨j, v⟩ D' wr ⟨rfl, hj, xr, sr, hmr, hor, hnr⟩
        refine zst ?_
        by_cases hjt : j < l.length
        · rw [show decide ((j : Int) < (l.length : Int)) = true by simpa using hjt]
          have hm := List.getElem?_eq_getElem hjt
          generalize l[j] = m at hm
          have hfs := fold_snoc hm (mergeM u.count 0 (L.take i) [])
          have hpl := part_len2 (L := l) (i := j) (out := mergeM u.count 0 (L.take i) [])
          generalize (l.take j).foldl addM (mergeM u.count 0 (L.take i) []) = acc at hfs hpl hor
          obtain ⟨b7, o7, a7, c7, rfl, hq7, hc7, ht7⟩ := hmr.next hm
          refine zst ?_
          refine WU.yld rfl rfl rfl (yld_load_cells rfl hc7) ?_
          refine WU.stp rfl rfl rfl stp_alloc ?_
          rintro _ w7 ⟨b8, rfl, n7⟩
          refine WU.stp0 rfl rfl (stp_store_whole rfl rfl rfl rfl) ?_
          rintro _ w8 u8
          have e7 := n7.num
          have x78 : Ext wr w8 := (u8.ofNew n7).ext
          have hi8 : Has w8 b8 _ := u8.has
          have hs8 := x78.size
          have hor8 := hor.ext x78
          clear u8 n7
          refine zst ?_
          refine WU.stp rfl rfl rfl (stp_call rfl (c_find m.name m.pkg w8 (hor8.mts (Nat.le_refl _)) (by omega))) ?_
          rintro r9 w9 ⟨hf9, x9⟩
          have hor9 := hor8.ext x9
          have hs9 := x9.size
          have hi9 : Has w9 b8 _ := hi8.ext' x9
          rw [addM_find] at hfs
          cases hfd : findM acc m.name.toList m.pkg with
          | none =>
            rw [hfd] at hf9 hfs
            obtain rfl : r9 = .tuple #[.agg mtz.toArray, .bool false] := hf9
            refine zst ?_
            refine WU.stp rfl rfl rfl stp_alloc ?_
            rintro _ w10 ⟨b10, rfl, n10⟩
            refine WU.stp0 rfl rfl (stp_store_whole rfl rfl rfl rfl) ?_
            rintro _ w11 u11
            have x11 : Ext w9 w11 := (u11.ofNew n10).ext
            have hor11 := hor9.ext x11
            have hs11 := x11.size
            have hi11 : Has w11 b8 _ := hi9.ext' x11
            clear u11 n10
            refine zst ?_
            refine WU.stp rfl rfl rfl (stp_buildSlice rfl rfl rfl rfl rfl) ?_
            rintro _ w12 ⟨b12, rfl, n12⟩
            have e12 := n12.num
            have hor12 := hor11.ext n12.ext
            have s12 := n12.size
            have x12 : Ext wr w12 := x78.trans (x9.trans (x11.trans n12.ext))
            refine WU.stp rfl rfl rfl (stp_push hpp rfl rfl (Nat.le_refl _) (by omega) hor12 (m := m) (Cells.has n12.has) ((ht7.ext x12).mono fun b hb => ?_) (by omega)) ?_
            · rcases hb with hb | hb
              · exact .inl hb
              · exact .inr ⟨by omega, by omega, fun e => hnr b e (.inr hb)⟩
            rintro v13 w13 ⟨ho13, ha13, hx13, hg13⟩
            refine zst ?_
            have hs13 := ha13.size
            refine ⟨(j + 1, v13), by show l.length - (j + 1) < l.length - j; omega, ⟨rfl, by omega, hx13 w3 (xr.trans x12) (Nat.le_refl _), by omega, (hmr.ext x12).same fun b hb => ha13.block b ?_ fun e => hnr b e.symm hb, by rw [hfs]; exact ho13, fun k hk hb => ?_⟩, sub_of ⟨rfl, rfl, rfl, rfl, rfl, rfl, rfl, rfl, rfl, trivial⟩⟩
            · rcases hb with hb | hb
              · have := hpp _ hb; omega
              · omega
            · rcases hg13 k hk with h | h
              · exact hnr k h hb
              · rcases hb with hb | hb
                · have := hpp _ hb; omega
                · omega
          | some m' =>
            rw [hfd] at hf9 hfs
            obtain ⟨a9, c9, rfl, _⟩ := hf9
            refine zst ?_
            refine WU.stp rfl rfl rfl stp_alloc ?_
            rintro _ w10 ⟨b10, rfl, n10⟩
            refine WU.stp0 rfl rfl (stp_store_whole rfl rfl rfl rfl) ?_
            rintro _ w11 u11
            have x11 : Ext w9 w11 := (u11.ofNew n10).ext
            have hor11 := hor9.ext x11
            have hs11 := x11.size
            clear u11 n10
            refine zst ?_
            have x12 : Ext wr w11 := x78.trans (x9.trans x11)
            exact ⟨(j + 1, v), by show l.length - (j + 1) < l.length - j; omega, ⟨rfl, by omega, xr.trans x12, by omega, hmr.ext x12, by rw [hfs]; exact hor11, hnr⟩, sub_of ⟨rfl, rfl, rfl, rfl, rfl, rfl, rfl, rfl, rfl, trivial⟩⟩
        · rw [show decide ((j : Int) < (l.length : Int)) = false by simpa using hjt]
          have hlj : l.take j = l := List.take_of_length_le (by omega)
          rw [hlj] at hor
          refine zst ?_
          exact ⟨(i + 1, v), by show u.elems.length - (i + 1) < u.elems.length - i; omega, ⟨rfl, by omega, xr, by rw [hsn]; exact hor⟩, sub_of ⟨rfl, rfl, rfl, rfl, rfl, rfl, trivial⟩⟩
      · have hyc : (i : Int) < u.count := by simpa using hct
        rw [if_pos hyc] at hsn
        have h1' := h1 i e l he hl hyc
        subst h1'
        refine zst ?_
        refine WU.stp rfl rfl rfl (stp_buildSlice rfl rfl rfl rfl rfl) ?_
        rintro _ w6 ⟨b6, rfl, n6⟩
        have e6 := n6.num
        have s6 := n6.size
        refine WU.stp rfl rfl rfl (stp_push hpp rfl rfl (Nat.le_refl _) (by omega) (ho5.ext n6.ext) (m := ⟨e.name, u.n, e⟩) (Cells.has n6.has) ((hte.ext (xk.trans (x45.trans n6.ext))).mono fun b hb => .inl hb) hfl0) ?_
        rintro v7 w7 ⟨ho7, ha7, hx7, hg7⟩
        refine zst ?_
        refine ⟨(i + 1, v7), by show u.elems.length - (i + 1) < u.elems.length - i; omega, ⟨rfl, by omega, hx7 w3 (xk.trans (x45.trans n6.ext)) (Nat.le_refl _), by rw [hsn]; exact ho7⟩, sub_of ⟨rfl, rfl, rfl, rfl, rfl, rfl, trivial⟩⟩
    · rw [show decide ((i : Int) < (u.elems.length : Int)) = false by simpa using hlt]
      refine zst ?_
      have hil : L.take i = L := List.take_of_length_le (by omega)
      rw [hil] at ho
      refine fin1 (.inl rfl) rfl rfl ⟨(ho.mts (Nat.le_refl _)).mono fun b hb => ?_, x03.trans xk⟩
      have := x2.size
      rcases hb with (hb | hb) | hb
      · exact .inl hb
      · exact .inr (by omega)
      · exact .inr (by omega)
end Go.Proofs.YtpiegpegjbmlkaaGreatDoor
namespace Go.Proofs.YtpiegpegjbmlkaaGreatDoor
open Go Go.Kd
set_option maxRecDepth 100000

/-- what a call of Identical comes to -/
def IdC (D : List De) (a : Option Addr) (cp : Nat) (tags : Bool) (x : Ty) (xx : X) : Prop := ∀ (y : Ty) (yy : X), Exp D y yy → Good D y → ∀ (a1 : Option Addr) (c1 : Nat) (a2 : Option Addr) (c2 : Nat) (w : World) (p : Nat → Prop), (∀ b, p b → b < w.heap.size) →
    DsV w p (.slice a D.length cp) D → TysV w p a1 c1 x.elems → TysV w p a2 c2 y.elems →
    Calls Tryz.prog 96 #[.slice a D.length cp, .agg (tyc x a1 c1).toArray, .agg (tyc y a2 c2).toArray, .bool tags] w (Ret fun r w' => r = .bool (idX tags xx yy) ∧ Ext w w')

theorem c_identicalElems {D : List De} (a : Option Addr) (cp : Nat) (tags : Bool) {x y : Ty} {es es' : List X} (hx : es.length = x.elems.length) (hy : es'.length = y.elems.length) (hxe : ∀ (i : Nat) e z, x.elems[i]? = some e → es[i]? = some z → IdC D a cp tags e z)
    (hye : ∀ (i : Nat) e z, y.elems[i]? = some e → es'[i]? = some z → Exp D e z ∧ Good D e) (a1 : Option Addr) (c1 : Nat) (a2 : Option Addr) (c2 : Nat) (w : World) (p : Nat → Prop) (hp : ∀ b, p b → b < w.heap.size)
    (hd : DsV w p (.slice a D.length cp) D) (ht1 : TysV w p a1 c1 x.elems) (ht2 : TysV w p a2 c2 y.elems) (hln : x.elems.length ≤ 16777216) :
    Calls Tryz.prog 143 #[.slice a D.length cp, .agg (tyc x a1 c1).toArray, .agg (tyc y a2 c2).toArray, .bool tags] w (Ret fun r w' => r = .bool (idL tags es es') ∧ Ext w w') := by
  refine W.enter (args := [.slice a D.length cp, .agg (tyc x a1 c1).toArray, .agg (tyc y a2 c2).toArray, .bool tags]) Tryz.func143 rfl Tryz.ntmps143 rfl rfl ?_
  refine zst ?_
  refine WU.stp rfl rfl rfl (by first | exact stp_box rfl rfl | exact stp_box1 rfl rfl) ?_
  rintro _ w1 ⟨b1, rfl, n1⟩
  refine WU.stp rfl rfl rfl (by first | exact stp_box rfl rfl | exact stp_box1 rfl rfl) ?_
  rintro _ w2 ⟨b2, rfl, n2⟩
  have e1 := n1.num
  have e2 := n2.num
  have s1 := n1.size
  have x2 : Ext w w2 := n1.ext.trans n2.ext
  have i1 : Has w2 b1 _ := n1.has.ext' n2.ext
  have i2 : Has w2 b2 _ := n2.has
  clear n1 n2
  refine zst ?_
  cases hne : ((x.elems.length : Int) != (y.elems.length : Int))
  · have hll : x.elems.length = y.elems.length := by simp at hne; omega
    refine zst ?_
    refine W.loop (σ := Nat) (fun k => [(21, .int .i64 k), (20, .int .i64 x.elems.length), (19, .slice a1 x.elems.length c1), (8, .bool false), (6, .pointer (some ⟨b2, 0, none⟩)), (5, .pointer (some ⟨b1, 0, none⟩)), (3, .bool tags), (0, .slice a D.length cp)])
      (fun k D' wk => D' = [] ∧ k ≤ x.elems.length ∧ Ext w2 wk ∧ ∀ (j : Nat) z z', j < k → es[j]? = some z → es'[j]? = some z' → idX tags z z' = true)
      (fun k => x.elems.length - k) 0 ⟨rfl, Nat.zero_le _, Ext.rfl' _, fun j z z' h => by omega⟩ (by exact sub_of ⟨rfl, rfl, rfl, rfl, rfl, rfl, rfl, rfl, trivial⟩) ?_
    rintro k D' wr ⟨rfl, hk, xr, hall⟩
    have hsz := xr.size
    have hsz2 := x2.size
    have i1' : Has wr b1 _ := i1.ext' xr
    have i2' : Has wr b2 _ := i2.ext' xr
    refine zst ?_
    by_cases hlt : k < x.elems.length
    · rw [show decide ((k : Int) < (x.elems.length : Int)) = true by simpa using hlt]
      have he := List.getElem?_eq_getElem hlt
      have hlt2 : k < y.elems.length := by omega
      have he2 := List.getElem?_eq_getElem hlt2
      have hz := List.getElem?_eq_getElem (show k < es.length by omega)
      have hz2 := List.getElem?_eq_getElem (show k < es'.length by omega)
      generalize x.elems[k] = e at he
      generalize y.elems[k] = e2 at he2
      generalize es[k] = z at hz
      generalize es'[k] = z2 at hz2
      obtain ⟨b, o, a3, c3, rfl, hpb, hc, hte⟩ := ht1.next he
      obtain ⟨b', o', a4, c4, rfl, hpb', hc2, hte2⟩ := ht2.next he2
      have hc' : Cells wr b (o + k * 8) (tyc e a3 c3) := hc.ext (x2.trans xr)
      refine zst ?_
      refine WU.yld rfl rfl rfl (yld_load_cells rfl hc') ?_
      refine WU.stp rfl rfl rfl stp_alloc ?_
      rintro _ w3 ⟨b3, rfl, n3⟩
      refine zst ?_
      refine WU.stp0 rfl rfl (stp_store_whole rfl rfl rfl rfl) ?_
      rintro _ w4 u4
      have x4 : Ext wr w4 := (u4.ofNew n3).ext
      have i4 : Has w4 b3 _ := u4.has
      have e3 := n3.num
      have i1'' : Has w4 b1 _ := i1'.ext' x4
      have i2'' : Has w4 b2 _ := i2'.ext' x4
      clear u4 n3
      refine zst ?_
      refine W.regD [(0, .q), (1, .q), (2, .q), (3, .q), (4, .q), (5, .q), (6, .q), (7, .q), (8, .l), (9, .q)] (by kernel_rfl) (by kernel_rfl) rfl ?_
      intro w5 x5 _
      refine zsd ?_
      have hc2' : Cells w5 b' (o' + k * 8) (tyc e2 a4 c4) := hc2.ext (x2.trans (xr.trans (x4.trans x5)))
      refine WD.yld rfl rfl rfl rfl (yld_load_cells rfl hc2') ?_
      refine zsd ?_
      have xx := x2.trans (xr.trans (x4.trans x5))
      have hs5 := x5.size
      have hs4 := x4.size
      refine WD.stp rfl rfl rfl rfl (stp_call rfl (hxe k e z he hz e2 z2 (hye k e2 z2 he2 hz2).1 (hye k e2 z2 he2 hz2).2 a3 c3 a4 c4 w5 p (fun b hb => by have := hp b hb; omega) (hd.ext xx) (hte.ext xx) (hte2.ext xx))) ?_
      rintro _ w6 ⟨rfl, x6⟩
      refine ⟨by first | assumption | exact Ext.rfl' _ | infer_instance, ?_⟩
      refine zsd ?_
      cases hid : idX tags z z2
      · refine zst ?_
        refine fin1 (.inl rfl) rfl rfl ⟨?_, xx.trans x6⟩
        have : idL tags es es' = false := by
          cases hh : idL tags es es' with
          | false => rfl
          | true => rw [((idL_iff tags es es').1 hh).2 k z z2 hz hz2] at hid; cases hid
        rw [this]
      · refine zst ?_
        exact ⟨k + 1, by omega, ⟨rfl, by omega, xr.trans (x4.trans (x5.trans x6)), fun j z' z'' hj hz' hz'' => by
          by_cases hjk : j = k
          · subst hjk; rw [hz] at hz'; rw [hz2] at hz''; cases hz'; cases hz''; exact hid
          · exact hall j z' z'' (by omega) hz' hz''⟩, sub_of ⟨rfl, rfl, rfl, rfl, rfl, rfl, rfl, rfl, trivial⟩⟩
    · rw [show decide ((k : Int) < (x.elems.length : Int)) = false by simpa using hlt]
      refine zst ?_
      refine fin1 (.inl rfl) rfl rfl ⟨?_, x2.trans xr⟩
      rw [(idL_iff tags es es').2 ⟨by omega, fun j z z' hz hz' => hall j z z' (by have := (List.getElem?_eq_some_iff.1 hz).1; omega) hz hz'⟩]
  · refine zst ?_
    refine fin1 (.inl rfl) rfl rfl ⟨?_, x2⟩
    have : idL tags es es' = false := by
      cases hh : idL tags es es' with
      | false => rfl
      | true => have := ((idL_iff tags es es').1 hh).1; simp at hne; omega
    rw [this]
end Go.Proofs.YtpiegpegjbmlkaaGreatDoor
namespace Go.Proofs.YtpiegpegjbmlkaaGreatDoor
open Go Go.Kd
set_option maxRecDepth 100000

def fan (t : Ty) : List An := t.elems.map fun e => ⟨e.name.toList, e.tag.toList, t.n, e.emb⟩
theorem fan_at {t : Ty} {i : Nat} {e : Ty} (h : t.elems[i]? = some e) : (fan t)[i]? = some ⟨e.name.toList, e.tag.toList, t.n, e.emb⟩ := by simp [fan, h]
theorem fan_len (t : Ty) : (fan t).length = t.elems.length := by simp [fan]

theorem c_sameFields (tags : Bool) {x y : Ty} (a1 : Option Addr) (c1 : Nat) (a2 : Option Addr) (c2 : Nat) (w : World) (p : Nat → Prop)
    (ht1 : TysV w p a1 c1 x.elems) (ht2 : TysV w p a2 c2 y.elems) (hln : x.elems.length ≤ 16777216) :
    Calls Tryz.prog 144 #[.agg (tyc x a1 c1).toArray, .agg (tyc y a2 c2).toArray, .bool tags] w (Ret fun r w' => r = .bool (sameAn tags (fan x) (fan y)) ∧ Ext w w') := by
  refine W.enter (args := [.agg (tyc x a1 c1).toArray, .agg (tyc y a2 c2).toArray, .bool tags]) Tryz.func144 rfl Tryz.ntmps144 rfl rfl ?_
  refine zst ?_
  refine WU.stp rfl rfl rfl (by first | exact stp_box rfl rfl | exact stp_box1 rfl rfl) ?_
  rintro _ w1 ⟨b1, rfl, n1⟩
  refine WU.stp rfl rfl rfl (by first | exact stp_box rfl rfl | exact stp_box1 rfl rfl) ?_
  rintro _ w2 ⟨b2, rfl, n2⟩
  have e1 := n1.num
  have e2 := n2.num
  have s1 := n1.size
  have x2 : Ext w w2 := n1.ext.trans n2.ext
  have i1 : Has w2 b1 _ := n1.has.ext' n2.ext
  have i2 : Has w2 b2 _ := n2.has
  clear n1 n2
  refine zst ?_
  cases hne : ((x.elems.length : Int) != (y.elems.length : Int))
  · have hll : x.elems.length = y.elems.length := by simp at hne; omega
    refine zst ?_
    refine W.loop (σ := Nat) (fun k => [(20, .int .i64 k), (19, .int .i64 x.elems.length), (18, .slice a1 x.elems.length c1), (6, .bool false), (4, .pointer (some ⟨b2, 0, none⟩)), (3, .pointer (some ⟨b1, 0, none⟩)), (2, .bool tags)])
      (fun k D' wk => D' = [] ∧ k ≤ x.elems.length ∧ Ext w2 wk ∧ ∀ (j : Nat) e f, j < k → x.elems[j]? = some e → y.elems[j]? = some f → (sameNm e.name.toList x.n f.name.toList y.n && (e.emb == f.emb && (!tags || e.tag.toList == f.tag.toList))) = true)
      (fun k => x.elems.length - k) 0 ⟨rfl, Nat.zero_le _, Ext.rfl' _, fun j e f h => by omega⟩ (by exact sub_of ⟨rfl, rfl, rfl, rfl, rfl, rfl, rfl, trivial⟩) ?_
    rintro k D' wr ⟨rfl, hk, xr, hall⟩
    have hsz := xr.size
    have hsz2 := x2.size
    have i1' : Has wr b1 _ := i1.ext' xr
    have i2' : Has wr b2 _ := i2.ext' xr
    refine zst ?_
    by_cases hlt : k < x.elems.length
    · rw [show decide ((k : Int) < (x.elems.length : Int)) = true by simpa using hlt]
      have he := List.getElem?_eq_getElem hlt
      have hlt2 : k < y.elems.length := by omega
      have he2 := List.getElem?_eq_getElem hlt2
      generalize x.elems[k] = e at he
      generalize y.elems[k] = f at he2
      obtain ⟨b, o, a3, c3, rfl, hpb, hc, hte⟩ := ht1.next he
      obtain ⟨b', o', a4, c4, rfl, hpb', hc2, hte2⟩ := ht2.next he2
      have hc' : Cells wr b (o + k * 8) (tyc e a3 c3) := hc.ext (x2.trans xr)
      refine zst ?_
      refine WU.yld rfl rfl rfl (yld_load_cells rfl hc') ?_
      refine WU.stp rfl rfl rfl stp_alloc ?_
      rintro _ w3 ⟨b3, rfl, n3⟩
      refine zst ?_
      refine WU.stp0 rfl rfl (stp_store_whole rfl rfl rfl rfl) ?_
      rintro _ w4 u4
      have x4 : Ext wr w4 := (u4.ofNew n3).ext
      have i4 : Has w4 b3 _ := u4.has
      have e3 := n3.num
      have i1'' : Has w4 b1 _ := i1'.ext' x4
      have i2'' : Has w4 b2 _ := i2'.ext' x4
      have s4 := x4.size
      clear u4 n3
      refine zst ?_
      have hc2' : Cells w4 b' (o' + k * 8) (tyc f a4 c4) := hc2.ext (x2.trans (xr.trans x4))
      refine WU.yld rfl rfl rfl (yld_load_cells rfl hc2') ?_
      refine WU.stp rfl rfl rfl stp_alloc ?_
      rintro _ w5 ⟨b5, rfl, n5⟩
      refine WU.stp0 rfl rfl (stp_store_whole rfl rfl rfl rfl) ?_
      rintro _ w6 u6
      have x6 : Ext w4 w6 := (u6.ofNew n5).ext
      have i6 : Has w6 b5 _ := u6.has
      have i4' : Has w6 b3 _ := i4.ext' x6
      have j1 : Has w6 b1 _ := i1''.ext' x6
      have j2 : Has w6 b2 _ := i2''.ext' x6
      clear u6 n5
      refine WU.nilk ?_
      refine W.cut [(56, .bool (!(sameNm e.name.toList x.n f.name.toList y.n && (e.emb == f.emb && (!tags || e.tag.toList == f.tag.toList))))), (20, .int .i64 k), (19, .int .i64 x.elems.length), (18, .slice (some ⟨b, o, none⟩) x.elems.length c1), (6, .bool false), (4, .pointer (some ⟨b2, 0, none⟩)), (3, .pointer (some ⟨b1, 0, none⟩)), (2, .bool tags)] ?_ ?_
      · refine zst ?_
        refine WU.stp rfl rfl rfl (stp_call rfl (c_sameName e.name f.name x.n y.n w6)) ?_
        rintro _ _ ⟨rfl, rfl⟩
        cases hs : sameNm e.name.toList x.n f.name.toList y.n
        · refine zst ?_
          exact ⟨rfl, rfl, rfl, rfl, rfl, rfl, rfl, rfl, rfl, rfl, trivial⟩
        · refine zst ?_
          cases hm : (e.emb == f.emb)
          · refine zst ?_
            exact ⟨rfl, rfl, rfl, rfl, rfl, rfl, rfl, rfl, rfl, rfl, trivial⟩
          · cases tags <;> (
              refine zst ?_
              exact ⟨rfl, rfl, rfl, rfl, rfl, rfl, rfl, rfl, rfl, rfl, trivial⟩)
      cases hq : (sameNm e.name.toList x.n f.name.toList y.n && (e.emb == f.emb && (!tags || e.tag.toList == f.tag.toList)))
      · refine zst ?_
        refine fin1 (.inl rfl) rfl rfl ⟨?_, x2.trans (xr.trans (x4.trans x6))⟩
        have : sameAn tags (fan x) (fan y) = false := by
          cases hh : sameAn tags (fan x) (fan y) with
          | false => rfl
          | true =>
            have h1 := ((sameAn_iff tags _ _).1 hh).2 k _ _ (fan_at he) (fan_at he2)
            rw [show sameNm e.name.toList x.n f.name.toList y.n = true from sameNm_iff.2 h1.1, show (e.emb == f.emb) = true by simpa using h1.2.1] at hq
            cases tags
            · simp at hq
            · have := h1.2.2 rfl
              simp at this
              simp [this] at hq
        rw [this]
      · refine zst ?_
        exact ⟨k + 1, by omega, ⟨rfl, by omega, xr.trans (x4.trans x6), fun j e' f' hj he' hf' => by
          by_cases hjk : j = k
          · subst hjk; rw [he] at he'; rw [he2] at hf'; cases he'; cases hf'; exact hq
          · exact hall j e' f' (by omega) he' hf'⟩, sub_of ⟨rfl, rfl, rfl, rfl, rfl, rfl, rfl, trivial⟩⟩
    · rw [show decide ((k : Int) < (x.elems.length : Int)) = false by simpa using hlt]
      refine zst ?_
      refine fin1 (.inl rfl) rfl rfl ⟨?_, x2.trans xr⟩
      rw [(sameAn_iff tags _ _).2 ⟨by rw [fan_len, fan_len]; omega, fun j a b ha hb => ?_⟩]
      have hj : j < x.elems.length := by rw [← fan_len]; exact (List.getElem?_eq_some_iff.1 ha).1
      have he := List.getElem?_eq_getElem hj
      have he2 := List.getElem?_eq_getElem (show j < y.elems.length by omega)
      have := hall j _ _ (by omega) he he2
      rw [fan_at he] at ha
      rw [fan_at he2] at hb
      cases ha; cases hb
      simp only [Bool.and_eq_true, Bool.or_eq_true, beq_iff_eq, Bool.not_eq_true'] at this
      exact ⟨sameNm_iff.1 this.1, this.2.1, fun ht => this.2.2.resolve_left (by simp [ht])⟩
  · refine zst ?_
    refine fin1 (.inl rfl) rfl rfl ⟨?_, x2⟩
    have : sameAn tags (fan x) (fan y) = false := by
      cases hh : sameAn tags (fan x) (fan y) with
      | false => rfl
      | true => have := ((sameAn_iff tags _ _).1 hh).1; rw [fan_len, fan_len] at this; simp at hne; omega
    rw [this]
end Go.Proofs.YtpiegpegjbmlkaaGreatDoor
namespace Go.Proofs.YtpiegpegjbmlkaaGreatDoor
open Go Go.Kd
set_option maxRecDepth 100000

theorem anM_at {ms : List Mt} {i : Nat} {m : Mt} (h : ms[i]? = some m) : (anM ms)[i]? = some ⟨m.name.toList, [], m.pkg, false⟩ := by simp [anM, h]
theorem anM_len (ms : List Mt) : (anM ms).length = ms.length := by simp [anM]

theorem c_sameMethods {D : List De} (a : Option Addr) (cp : Nat) (tags : Bool) {ms ms' : List Mt} {es es' : List X} (hx : es.length = ms.length) (hy : es'.length = ms'.length) (hxe : ∀ (i : Nat) m z, ms[i]? = some m → es[i]? = some z → IdC D a cp tags m.fn z)
    (hye : ∀ (i : Nat) m z, ms'[i]? = some m → es'[i]? = some z → Exp D m.fn z ∧ Good D m.fn) (v v' : Value) (w : World) (p : Nat → Prop) (hp : ∀ b, p b → b < w.heap.size)
    (hd : DsV w p (.slice a D.length cp) D) (hl1 : MtsV w p v ms) (hl2 : MtsV w p v' ms') (hln2 : ms'.length ≤ 1073741824) :
    Calls Tryz.prog 145 #[.slice a D.length cp, v, v', .bool tags] w (Ret fun r w' => r = .bool ((anM ms).length == (anM ms').length && idM tags (anM ms) es (anM ms') es') ∧ Ext w w') := by
  obtain ⟨a1, c1, rfl⟩ := hl1.shape
  obtain ⟨a2, c2, rfl⟩ := hl2.shape
  have hiff := idM_iff tags (anM ms') es' es (anM ms) (by rw [anM_len]; omega)
  refine W.enter (args := [.slice a D.length cp, .slice a1 ms.length c1, .slice a2 ms'.length c2, .bool tags]) Tryz.func145 rfl Tryz.ntmps145 rfl rfl ?_
  refine zst ?_
  rw [anM_len, anM_len]
  cases hne : ((ms.length : Int) != (ms'.length : Int))
  · have hll : ms.length = ms'.length := by simp at hne; omega
    rw [show (ms.length == ms'.length) = true by simpa using hll, Bool.true_and]
    refine zst ?_
    refine W.loop (σ := Nat) (fun k => [(20, .int .i64 k), (19, .int .i64 ms.length), (18, .slice a1 ms.length c1), (8, .bool false), (3, .bool tags), (2, .slice a2 ms'.length c2), (0, .slice a D.length cp)])
      (fun k D' wk => D' = [] ∧ k ≤ ms.length ∧ Ext w wk ∧ ∀ (j : Nat) m z, j < k → ms[j]? = some m → es[j]? = some z → ∃ y, findX (anM ms') es' m.name.toList m.pkg = some y ∧ idX tags z y = true)
      (fun k => ms.length - k) 0 ⟨rfl, Nat.zero_le _, Ext.rfl' _, fun j e f h => by omega⟩ (by exact sub_of ⟨rfl, rfl, rfl, rfl, rfl, rfl, rfl, trivial⟩) ?_
    rintro k D' wr ⟨rfl, hk, xr, hall⟩
    have hsz := xr.size
    refine zst ?_
    by_cases hlt : k < ms.length
    · rw [show decide ((k : Int) < (ms.length : Int)) = true by simpa using hlt]
      have hm := List.getElem?_eq_getElem hlt
      have hz := List.getElem?_eq_getElem (show k < es.length by omega)
      generalize ms[k] = m at hm
      generalize es[k] = z at hz
      have hno : (∀ y, findX (anM ms') es' m.name.toList m.pkg = some y → idX tags z y = false) → idM tags (anM ms) es (anM ms') es' = false := fun h => by
        cases hh : idM tags (anM ms) es (anM ms') es' with
        | false => rfl
        | true =>
          obtain ⟨y, h1, h2⟩ := hiff.1 hh k _ z (anM_at hm) hz
          rw [h y h1] at h2; cases h2
      obtain ⟨b, o, a3, c3, rfl, hpb, hc, hte⟩ := hl1.next hm
      have hc' : Cells wr b (o + k * 10) (mtl m a3 c3) := hc.ext xr
      refine zst ?_
      refine WU.yld rfl rfl rfl (yld_load_cells rfl hc') ?_
      refine WU.stp rfl rfl rfl stp_alloc ?_
      rintro _ w3 ⟨b3, rfl, n3⟩
      refine WU.stp0 rfl rfl (stp_store_whole rfl rfl rfl rfl) ?_
      rintro _ w4 u4
      have x4 : Ext wr w4 := (u4.ofNew n3).ext
      have i4 : Has w4 b3 _ := u4.has
      have s4 := x4.size
      clear u4 n3
      refine zst ?_
      refine WU.stp rfl rfl rfl (stp_call rfl (c_find m.name m.pkg w4 (hl2.ext (xr.trans x4)) hln2)) ?_
      rintro r9 w9 ⟨hf9, x9⟩
      have i9 : Has w9 b3 _ := i4.ext' x9
      have hs9 := x9.size
      rcases find_rel ms' es' m.name.toList m.pkg hy with ⟨h1, h2⟩ | ⟨j, n, y, h1, h2, h3, h4⟩
      · rw [h1] at hf9
        obtain rfl : r9 = .tuple #[.agg mtz.toArray, .bool false] := hf9
        refine zst ?_
        refine WU.stp rfl rfl rfl stp_alloc ?_
        rintro _ w10 ⟨b10, rfl, n10⟩
        refine WU.stp0 rfl rfl (stp_store_whole rfl rfl rfl rfl) ?_
        rintro _ w11 u11
        have x11 : Ext w9 w11 := (u11.ofNew n10).ext
        have i11 : Has w11 b3 _ := i9.ext' x11
        clear n10
        refine zst ?_
        refine fin1 (.inl rfl) rfl rfl ⟨?_, xr.trans (x4.trans (x9.trans x11))⟩
        rw [hno fun y h => by rw [h2] at h; cases h]
      · rw [h1] at hf9
        obtain ⟨a9, c9, rfl, ht9⟩ := hf9
        refine zst ?_
        refine WU.stp rfl rfl rfl stp_alloc ?_
        rintro _ w10 ⟨b10, rfl, n10⟩
        refine WU.stp0 rfl rfl (stp_store_whole rfl rfl rfl rfl) ?_
        rintro _ w11 u11
        have x11 : Ext w9 w11 := (u11.ofNew n10).ext
        have i11 : Has w11 b3 _ := i9.ext' x11
        have i12 : Has w11 b10 _ := u11.has
        have hs11 := x11.size
        clear u11 n10
        refine zst ?_
        refine WU.yld rfl rfl rfl (yld_load_cells rfl (Cells.mt_ty (Cells.has i11))) ?_
        refine zst ?_
        refine WU.yld rfl rfl rfl (yld_load_cells rfl (Cells.mt_ty (Cells.has i12))) ?_
        refine zst ?_
        have xx := xr.trans (x4.trans (x9.trans x11))
        refine WU.stp rfl rfl rfl (stp_call rfl (hxe k m z hm hz n.fn y (hye j n y h2 h3).1 (hye j n y h2 h3).2 a3 c3 a9 c9 w11 p (fun b hb => by have := hp b hb; omega) (hd.ext xx) (hte.ext xx) (ht9.ext x11))) ?_
        rintro _ w13 ⟨rfl, x13⟩
        cases hid : idX tags z y
        · refine zst ?_
          refine fin1 (.inl rfl) rfl rfl ⟨?_, xx.trans x13⟩
          rw [hno fun y' h => by rw [h4] at h; cases h; exact hid]
        · refine zst ?_
          exact ⟨k + 1, by omega, ⟨rfl, by omega, xx.trans x13, fun j' m' z' hj hm' hz' => by
            by_cases hjk : j' = k
            · subst hjk; rw [hm] at hm'; rw [hz] at hz'; cases hm'; cases hz'; exact ⟨y, h4, hid⟩
            · exact hall j' m' z' (by omega) hm' hz'⟩, sub_of ⟨rfl, rfl, rfl, rfl, rfl, rfl, rfl, trivial⟩⟩
    · rw [show decide ((k : Int) < (ms.length : Int)) = false by simpa using hlt]
      refine zst ?_
      refine fin1 (.inl rfl) rfl rfl ⟨?_, xr⟩
      rw [hiff.2 fun j a' z ha hz => ?_]
      have hj : j < ms.length := by rw [← anM_len]; exact (List.getElem?_eq_some_iff.1 ha).1
      have hm := List.getElem?_eq_getElem hj
      rw [anM_at hm] at ha
      cases ha
      exact hall j _ z (by omega) hm hz
  · refine zst ?_
    refine fin1 (.inl rfl) rfl rfl ⟨?_, Ext.rfl' _⟩
    rw [show (ms.length == ms'.length) = false by simp at hne; simp; omega, Bool.false_and]
end Go.Proofs.YtpiegpegjbmlkaaGreatDoor
namespace Go.Proofs.YtpiegpegjbmlkaaGreatDoor
open Go Go.Kd
set_option maxRecDepth 100000

theorem anN_fan {t : Ty} (h : t.kind = 7) : anN t = fan t := by unfold anN fan; rw [if_pos h]
/-- the roots of two trees -/
theorem exp_kind {D : List De} {t : Ty} {x : X} (h : Exp D t x) : (∃ n, x = .leaf (unaliasT D t).kind n) ∨ ∃ n c vr an es, x = .node (unaliasT D t).kind n c vr an es := by
  cases h with
  | leaf => exact .inl ⟨_, rfl⟩
  | plain => exact .inr ⟨_, _, _, _, _, rfl⟩
  | iface _ ms es h9 => exact .inr ⟨0, 0, false, anM ms, es, by rw [h9]⟩
theorem idX_kind {D : List De} {tags : Bool} {t t' : Ty} {x y : X} (h : Exp D t x) (h' : Exp D t' y) (hne : (unaliasT D t).kind ≠ (unaliasT D t').kind) : idX tags x y = false := by
  rcases exp_kind h with ⟨n, rfl⟩ | ⟨n, c, vr, an, es, rfl⟩ <;> rcases exp_kind h' with ⟨n', rfl⟩ | ⟨n', c', vr', an', es', rfl⟩
  · simp [idX, hne]
  · simp [idX]
  · simp [idX]
  · rw [idX_node]; simp [hne]

theorem exp_leaf_inv {D : List De} {t : Ty} {x : X} (h : Exp D t x) (hk : (unaliasT D t).kind = 0 ∨ (unaliasT D t).kind = 1) : x = .leaf (unaliasT D t).kind (unaliasT D t).n := by
  cases h with
  | leaf => rfl
  | plain => omega
  | iface => omega
theorem exp_plain_inv {D : List De} {t : Ty} {x : X} (h : Exp D t x) (h2 : 2 ≤ (unaliasT D t).kind) (h8 : (unaliasT D t).kind ≤ 8) : ∃ es, es.length = (unaliasT D t).elems.length ∧ (∀ (i : Nat) e z, (unaliasT D t).elems[i]? = some e → es[i]? = some z → Exp D e z) ∧
    x = .node (unaliasT D t).kind (nN (unaliasT D t)) (cN (unaliasT D t)) (vN (unaliasT D t)) (anN (unaliasT D t)) es := by
  cases h with
  | leaf => omega
  | plain _ es _ _ hl he => exact ⟨es, hl, he, rfl⟩
  | iface => omega
theorem exp_iface_inv {D : List De} {t : Ty} {x : X} (h : Exp D t x) (h9 : (unaliasT D t).kind = 9) : ∃ ms es, IM D (unaliasT D t) ms ∧ es.length = ms.length ∧ (∀ (i : Nat) m z, ms[i]? = some m → es[i]? = some z → Exp D m.fn z) ∧ x = .node 9 0 0 false (anM ms) es := by
  cases h with
  | leaf => omega
  | plain => omega
  | iface _ ms es _ him hl he => exact ⟨ms, es, him, hl, he, rfl⟩

theorem IM_len' {D : List De} (hD : OkD D) {t : Ty} (hG : Good D t) {ms : List Mt} (h : IM D t ms) : ms.length ≤ 1073741824 := by
  obtain ⟨i, v, hi, hs⟩ := hG.sh
  have := IM_len hD.sh h hi hs
  have := hG.wt
  have := hD.wt
  omega

set_option maxHeartbeats 8000000 in
theorem c_Identical {D : List De} (hD : OkD D) (a : Option Addr) (cp : Nat) (tags : Bool) {x : Ty} {xx : X} (h : Exp D x xx) : Good D x → IdC D a cp tags x xx := by
  have main : ∀ (x : Ty) (xx : X), Exp D x xx → Good D x → (2 ≤ (unaliasT D x).kind → (unaliasT D x).kind ≤ 8 → ∀ es, xx = .node (unaliasT D x).kind (nN (unaliasT D x)) (cN (unaliasT D x)) (vN (unaliasT D x)) (anN (unaliasT D x)) es →
        ∀ (i : Nat) e z, (unaliasT D x).elems[i]? = some e → es[i]? = some z → IdC D a cp tags e z) →
      ((unaliasT D x).kind = 9 → ∀ ms es, IM D (unaliasT D x) ms → xx = .node 9 0 0 false (anM ms) es → ∀ (i : Nat) m z, ms[i]? = some m → es[i]? = some z → IdC D a cp tags m.fn z) → IdC D a cp tags x xx := by
    intro x xx hX hG hpl hif y yy hY hGy a1 c1 a2 c2 w p hp hd ht1 ht2
    have hGu := hG.unalias hD
    have hGv := hGy.unalias hD
    refine W.enter (args := [.slice a D.length cp, .agg (tyc x a1 c1).toArray, .agg (tyc y a2 c2).toArray, .bool tags]) Tryz.func96 rfl Tryz.ntmps96 rfl rfl ?_
    refine zst ?_
    refine WU.stp rfl rfl rfl (by first | exact stp_box rfl rfl | exact stp_box1 rfl rfl) ?_
    rintro _ w1 ⟨b1, rfl, n1⟩
    refine WU.stp rfl rfl rfl (by first | exact stp_box rfl rfl | exact stp_box1 rfl rfl) ?_
    rintro _ w2 ⟨b2, rfl, n2⟩
    have e1 := n1.num
    have e2 := n2.num
    have s1 := n1.size
    have s2 := n2.size
    have x2 : Ext w w2 := n1.ext.trans n2.ext
    have i1 : Has w2 b1 _ := n1.has.ext' n2.ext
    have i2 : Has w2 b2 _ := n2.has
    clear n1 n2
    refine zst ?_
    refine W.regD [(0, .q), (1, .q), (3, .q), (4, .q), (2, .l), (5, .l), (6, .z), (7, .z)] (by kernel_rfl) (by kernel_rfl) rfl ?_
    intro w3 x3 _
    have j1 : Has w3 b1 _ := i1.ext' x3
    have j2 : Has w3 b2 _ := i2.ext' x3
    refine zsd ?_
    have s3 := x3.size
    refine WD.stp rfl rfl rfl rfl (stp_call rfl (c_Unalias hD hG a cp a1 c1 w3 (hd.ext (x2.trans x3)) (ht1.ext (x2.trans x3)))) ?_
    rintro _ w4 ⟨a3, c3, rfl, ht3, x4⟩
    refine ⟨by first | assumption | exact Ext.rfl' _ | infer_instance, ?_⟩
    refine WD.stp rfl rfl rfl rfl (stp_call rfl (c_Unalias hD hGy a cp a2 c2 w4 (hd.ext (x2.trans (x3.trans x4))) (ht2.ext (x2.trans (x3.trans x4))))) ?_
    rintro _ w5 ⟨a4, c4, rfl, ht4, x5⟩
    refine ⟨by first | assumption | exact Ext.rfl' _ | infer_instance, ?_⟩
    have k1 : Has w5 b1 _ := (j1.ext' x4).ext' x5
    have k2 : Has w5 b2 _ := (j2.ext' x4).ext' x5
    have s5 := (x4.trans x5).size
    refine WD.last0 rfl rfl rfl (stp_store_whole rfl rfl rfl rfl) ?_
    rintro _ w6 u6
    have l2 : Has w6 b2 _ := u6.keep k2 (by omega)
    refine WD.last0 rfl rfl rfl (stp_store_whole rfl rfl rfl rfl) ?_
    rintro _ w7 u7
    have m1 : Has w7 b1 _ := u7.keep u6.has (by omega)
    have m2 : Has w7 b2 _ := u7.has
    have x7 : Ext w w7 := u7.ext (u6.ext (x2.trans (x3.trans (x4.trans x5))) (by omega)) (by omega)
    have np1 : ¬ p b1 := fun h => by have := hp _ h; omega
    have np2 : ¬ p b2 := fun h => by have := hp _ h; omega
    have t3 : TysV w7 p a3 c3 (unaliasT D x).elems := (((ht3.ext x4).ext x5).upd u6 np1).upd u7 np2
    have t4 : TysV w7 p a4 c4 (unaliasT D y).elems := ((ht4.ext x5).upd u6 np1).upd u7 np2
    have hd7 : DsV w7 p (.slice a D.length cp) D := hd.ext x7
    have hp7 : ∀ b, p b → b < w7.heap.size := fun b hb => by have := hp b hb; have := x7.size; omega
    have hlu := wt_len (unaliasT D x)
    have hwu := hGu.wt
    clear u6 u7 k1 k2 j1 j2 i1 i2 ht3 ht4
    refine zsd ?_
    generalize hu : unaliasT D x = u at hpl hif hGu t3 m1 hlu hwu
    generalize hv : unaliasT D y = v at hGv t4 m2
    have hkr := hGu.sh.choose_spec.choose_spec.2.shape
    have hplain : 2 ≤ u.kind → u.kind ≤ 8 → u.kind = v.kind → ∃ es es', idX tags xx yy = (nN u == nN v && (cN u == cN v && (vN u == vN v && (sameAn tags (anN u) (anN v) && idL tags es es')))) ∧
        ∀ wz, Ext w7 wz → Calls Tryz.prog 143 #[.slice a D.length cp, .agg (tyc u a3 c3).toArray, .agg (tyc v a4 c4).toArray, .bool tags] wz (Ret fun r w' => r = .bool (idL tags es es') ∧ Ext wz w') := by
      intro k2 k8 kk
      obtain ⟨es, g1, g2, g3⟩ := exp_plain_inv hX (by rw [hu]; exact k2) (by rw [hu]; exact k8)
      obtain ⟨es', g4, g5, g6⟩ := exp_plain_inv hY (by rw [hv]; omega) (by rw [hv]; omega)
      rw [hu] at g1 g2 g3
      rw [hv] at g4 g5 g6
      refine ⟨es, es', ?_, fun wz xz => c_identicalElems a cp tags g1 g4 (hpl k2 k8 es g3) (fun i e z he hz => ⟨g5 i e z he hz, hGv.el he⟩) a3 c3 a4 c4 wz p (fun b hb => by have := hp7 b hb; have := xz.size; omega) (hd7.ext xz) (t3.ext xz) (t4.ext xz) (by omega)⟩
      rw [g3, g6, idX_node, kk, beq_self_eq_true, Bool.true_and, if_neg (by omega)]
      simp only [Bool.and_assoc]
    cases hne : (u.kind != v.kind) with
    | true =>
      refine zst ?_
      rw [hne]
      refine zst ?_
      refine fin1 (.inl rfl) rfl rfl ⟨?_, x7⟩
      rw [idX_kind hX hY (by rw [hu, hv]; simpa using hne)]
    | false =>
    have kk : u.kind = v.kind := by simpa using hne
    have hleaf : u.kind = 0 ∨ u.kind = 1 → idX tags xx yy = (u.n == v.n) := fun h => by
      rw [exp_leaf_inv hX (by rw [hu]; exact h), exp_leaf_inv hY (by rw [hv]; omega), hu, hv, idX]
      simp [kk]
    refine zst ?_
    rw [hne]
    refine zst ?_
    cases k0 : (u.kind == 0)
    · refine zst ?_
      cases k1 : (u.kind == 1)
      · refine zst ?_
        cases k4 : (u.kind == 4)
        · refine zst ?_
          cases k6 : (u.kind == 6)
          · refine zst ?_
            cases k7 : (u.kind == 7)
            · refine zst ?_
              cases k8 : (u.kind == 8)
              · refine zst ?_
                cases k9 : (u.kind == 9)
                · refine zst ?_
                  simp only [beq_eq_false_iff_ne] at k0 k1 k4 k6 k7 k8 k9
                  have := hkr.lo
                  have := hkr.hi
                  obtain ⟨es, es', g1, g2⟩ := hplain (by omega) (by omega) kk
                  refine WU.stp rfl rfl rfl (stp_call rfl (g2 w7 (Ext.rfl' _))) ?_
                  rintro _ w8 ⟨rfl, x8⟩
                  refine zst ?_
                  refine fin1 (.inl rfl) rfl rfl ⟨?_, x7.trans x8⟩
                  rw [g1]
                  simp [nN, cN, vN, anN, ← kk, k4, k6, k7, k8, sameAn]
                · refine zst ?_
                  have hk9 : u.kind = 9 := by simpa using k9
                  obtain ⟨ms, es, g1, g2, g3, g4⟩ := exp_iface_inv hX (by rw [hu]; exact hk9)
                  obtain ⟨ms', es', g5, g6, g7, g8⟩ := exp_iface_inv hY (by rw [hv]; omega)
                  rw [hu] at g1
                  rw [hv] at g5
                  have gl1 := IM_len' hD hGv g5
                  have gl2 := IM_len' hD hGu g1
                  have gm := IM_good hD g5 hGv
                  refine W.regD [(0, .q), (1, .q), (2, .q), (4, .q), (5, .q), (7, .q), (3, .l), (6, .l), (8, .l), (9, .q)] (by kernel_rfl) (by kernel_rfl) rfl ?_
                  intro w8 x8 _
                  have m1' : Has w8 b1 _ := m1.ext' x8
                  have m2' : Has w8 b2 _ := m2.ext' x8
                  refine zsd ?_
                  refine WD.stp rfl rfl rfl rfl (stp_call rfl (c_InterfaceMethods hD a cp g1 hGu a3 c3 w8 p (fun b hb => by have := hp7 b hb; have := x8.size; omega) (hd7.ext x8) (t3.ext x8))) ?_
                  rintro v9 w9 ⟨hm9, x9⟩
                  refine ⟨by first | assumption | exact Ext.rfl' _ | infer_instance, ?_⟩
                  refine WD.stp rfl rfl rfl rfl (stp_call rfl (c_InterfaceMethods hD a cp g5 hGv a4 c4 w9 p (fun b hb => by have := hp7 b hb; have := (x8.trans x9).size; omega) (hd7.ext (x8.trans x9)) (t4.ext (x8.trans x9)))) ?_
                  rintro v10 w10 ⟨hm10, x10⟩
                  refine ⟨by first | assumption | exact Ext.rfl' _ | infer_instance, ?_⟩
                  have s10 := x10.size
                  have s9 := x9.size
                  have s8 := x8.size
                  refine WD.stp rfl rfl rfl rfl (stp_call rfl (c_sameMethods a cp tags g2 g6 (hif hk9 ms es g1 g4) (fun i m z hm hz => ⟨g7 i m z hm hz, gm m (List.mem_of_getElem? hm)⟩) v9 v10 w10 (btw w8 w10 p) (fun b hb => by
                                      rcases hb with hb | hb
                                      · have := hp7 b hb; omega
                                      · omega) ((hd7.ext (x8.trans (x9.trans x10))).mono fun b hb => .inl hb) ((hm9.ext x10).mono fun b hb => by
                                      rcases hb with hb | hb
                                      · exact .inl hb
                                      · exact .inr (by omega)) (hm10.mono fun b hb => by
                                      rcases hb with hb | hb
                                      · exact .inl hb
                                      · exact .inr (by omega)) gl1)) ?_
                  rintro _ w11 ⟨rfl, x11⟩
                  refine ⟨by first | assumption | exact Ext.rfl' _ | infer_instance, ?_⟩
                  refine zsd ?_
                  refine zst ?_
                  refine fin1 (.inl rfl) rfl rfl ⟨?_, x7.trans (x8.trans (x9.trans (x10.trans x11)))⟩
                  rw [g4, g8, idX_node]
                  simp
              · refine zst ?_
                have hk8 : u.kind = 8 := by simpa using k8
                obtain ⟨es, es', g1, g2⟩ := hplain (by omega) (by omega) kk
                have hr : idX tags xx yy = (u.count == v.count && (u.vr == v.vr && idL tags es es')) := by
                  rw [g1]; simp [nN, cN, vN, anN, ← kk, hk8, sameAn]
                rw [hr]
                cases c1' : (u.count == v.count)
                · refine zst ?_
                  exact fin1 (.inl rfl) rfl rfl ⟨rfl, x7⟩
                · refine zst ?_
                  cases c2' : (u.vr == v.vr)
                  · refine zst ?_
                    exact fin1 (.inl rfl) rfl rfl ⟨rfl, x7⟩
                  · refine zst ?_
                    refine WU.stp rfl rfl rfl (stp_call rfl (g2 w7 (Ext.rfl' _))) ?_
                    rintro _ w8 ⟨rfl, x8⟩
                    refine zst ?_
                    exact fin1 (.inl rfl) rfl rfl ⟨rfl, x7.trans x8⟩
            · refine zst ?_
              have hk7 : u.kind = 7 := by simpa using k7
              obtain ⟨es, es', g1, g2⟩ := hplain (by omega) (by omega) kk
              have hr : idX tags xx yy = (sameAn tags (fan u) (fan v) && idL tags es es') := by
                rw [g1, anN_fan hk7, anN_fan (by omega)]; simp [nN, cN, vN, ← kk, hk7]
              rw [hr]
              refine WU.stp rfl rfl rfl (stp_call rfl (c_sameFields tags a3 c3 a4 c4 w7 p t3 t4 (by omega))) ?_
              rintro _ w8 ⟨rfl, x8⟩
              have m1' : Has w8 b1 _ := m1.ext' x8
              have m2' : Has w8 b2 _ := m2.ext' x8
              cases c1' : sameAn tags (fan u) (fan v)
              · refine zst ?_
                exact fin1 (.inl rfl) rfl rfl ⟨rfl, x7.trans x8⟩
              · refine zst ?_
                refine WU.stp rfl rfl rfl (stp_call rfl (g2 w8 x8)) ?_
                rintro _ w9 ⟨rfl, x9⟩
                refine zst ?_
                exact fin1 (.inl rfl) rfl rfl ⟨rfl, x7.trans (x8.trans x9)⟩
          · refine zst ?_
            have hk6 : u.kind = 6 := by simpa using k6
            obtain ⟨es, es', g1, g2⟩ := hplain (by omega) (by omega) kk
            have hr : idX tags xx yy = (u.n == v.n && idL tags es es') := by
              rw [g1]; simp [nN, cN, vN, anN, ← kk, hk6, sameAn]
            rw [hr]
            cases c1' : (u.n == v.n)
            · refine zst ?_
              exact fin1 (.inl rfl) rfl rfl ⟨rfl, x7⟩
            · refine zst ?_
              refine WU.stp rfl rfl rfl (stp_call rfl (g2 w7 (Ext.rfl' _))) ?_
              rintro _ w8 ⟨rfl, x8⟩
              refine zst ?_
              exact fin1 (.inl rfl) rfl rfl ⟨rfl, x7.trans x8⟩
        · refine zst ?_
          have hk4 : u.kind = 4 := by simpa using k4
          obtain ⟨es, es', g1, g2⟩ := hplain (by omega) (by omega) kk
          have hr : idX tags xx yy = (u.n == v.n && idL tags es es') := by
            rw [g1]; simp [nN, cN, vN, anN, ← kk, hk4, sameAn]
          rw [hr]
          cases c1' : (u.n == v.n)
          · refine zst ?_
            exact fin1 (.inl rfl) rfl rfl ⟨rfl, x7⟩
          · refine zst ?_
            refine WU.stp rfl rfl rfl (stp_call rfl (g2 w7 (Ext.rfl' _))) ?_
            rintro _ w8 ⟨rfl, x8⟩
            refine zst ?_
            exact fin1 (.inl rfl) rfl rfl ⟨rfl, x7.trans x8⟩
      · refine zst ?_
        exact fin1 (.inl rfl) rfl rfl ⟨by rw [hleaf (.inr (by simpa using k1))], x7⟩
    · refine zst ?_
      exact fin1 (.inl rfl) rfl rfl ⟨by rw [hleaf (.inl (by simpa using k0))], x7⟩
  induction h with
  | leaf t hk => exact fun hG => main t _ (.leaf t hk) hG (fun h => by omega) (fun h => by omega)
  | plain t es h2 h8 hl he ih =>
    refine fun hG => main t _ (.plain t es h2 h8 hl he) hG (fun _ _ es' heq i e z hE hz => ?_) (fun h => by omega)
    cases heq
    exact ih i e z hE hz ((hG.unalias hD).el hE)
  | iface t ms es h9 him hl he ih =>
    refine fun hG => main t _ (.iface t ms es h9 him hl he) hG (fun _ h => by omega) (fun _ ms' es' him' heq i m z hm hz => ?_)
    have := him.det him'
    subst this
    cases heq
    exact ih i m z hm hz (IM_good hD him (hG.unalias hD) m (List.mem_of_getElem? hm))
end Go.Proofs.YtpiegpegjbmlkaaGreatDoor
namespace Go.Proofs.YtpiegpegjbmlkaaGreatDoor
open Go Go.Kd
set_option maxRecDepth 100000

/-- a byte or 0x20 -/
def or32 (c : UInt8) : Int := IntKind.u8.wrap (BitVec.ofInt IntKind.u8.bits (c.toNat : Int) ||| BitVec.ofInt IntKind.u8.bits 32).toNat
theorem or32_fin : ∀ n : Fin 256, or32 (UInt8.ofNat n.val) = (((UInt8.ofNat n.val) ||| 32).toNat : Int) := by decide +kernel
theorem or32_eq (c : UInt8) : or32 c = ((c ||| 32).toNat : Int) := by
  have := or32_fin ⟨c.toNat, c.toNat_lt⟩
  simpa using this
theorem us_list : (⟨#[95]⟩ : ByteArray).toList = us := by rw [Lib.toList_data]; rfl

theorem c_isIdentifier (nm : ByteArray) (w : World) (hn : nm.size ≤ 9223372036854775807) :
    Calls Tryz.prog 39 #[.string nm] w (Ret fun r w' => ∃ b, r = .bool b ∧ (b = true → Ident nm.toList) ∧ w = w') := by
  have hsz := size_toList nm
  refine W.enter (args := [.string nm]) Tryz.func39 rfl Tryz.ntmps39 rfl rfl ?_
  refine zst ?_
  rw [us_list]
  cases h0 : (nm.toList == us)
  · refine zst ?_
    refine W.loop (σ := Nat) (fun k => [(9, .int .i64 k), (8, .int .i64 nm.size), (2, .bool false), (0, .string nm)])
      (fun k D' wk => D' = [] ∧ k ≤ nm.size ∧ w = wk ∧ ∀ (j : Nat) c, j < k → nm.toList[j]? = some c → letter c = true ∨ (j ≠ 0 ∧ digit c = true))
      (fun k => nm.size - k) 0 ⟨rfl, Nat.zero_le _, rfl, fun j b h => by omega⟩ (by exact sub_of ⟨rfl, rfl, rfl, rfl, trivial⟩) ?_
    rintro k D' wr ⟨rfl, hk, rfl, hall⟩
    refine zst ?_
    by_cases hlt : k < nm.size
    · rw [show decide ((k : Int) < (nm.size : Int)) = true by simpa using hlt]
      have hc := List.getElem?_eq_getElem (show k < nm.toList.length by omega)
      generalize nm.toList[k] = c at hc
      refine zst ?_
      refine WU.yld rfl rfl rfl (yld_index_str rfl rfl hc) ?_
      refine WU.yld rfl rfl rfl (yld_or rfl rfl) ?_
      rw [show IntKind.u8.wrap (BitVec.ofInt IntKind.u8.bits (c.toNat : Int) ||| BitVec.ofInt IntKind.u8.bits 32).toNat = or32 c from rfl]
      (repeat ((fail_if_success guard_target =~ gW (.seq (.region 7 _ _) _)); (fail_if_success guard_target =~ gW (.seq (.seq (.region 7 _ _) _) _)); refine zs1 ?_))
      refine W.cut [(37, .bool ((decide (or32 c < 97) || decide (or32 c > 122)) && (((k : Int) == 0) || (decide ((c.toNat : Int) < 48) || decide ((c.toNat : Int) > 57))))), (9, .int .i64 k), (8, .int .i64 nm.size), (2, .bool false), (0, .string nm)] ?_ ?_
      · refine zst ?_
        cases A1 : decide (or32 c < 97)
        · refine zst ?_
          cases A2 : decide (or32 c > 122)
          · refine zst ?_
            exact ⟨rfl, rfl, rfl, rfl, rfl, rfl, rfl, trivial⟩
          · refine zst ?_
            cases A3 : ((k : Int) == 0)
            · refine zst ?_
              refine WU.yld rfl rfl rfl (yld_index_str rfl rfl hc) ?_
              refine zst ?_
              cases A4 : decide ((c.toNat : Int) < 48)
              · refine zst ?_
                refine WU.yld rfl rfl rfl (yld_index_str rfl rfl hc) ?_
                refine zst ?_
                exact ⟨rfl, rfl, rfl, rfl, rfl, rfl, rfl, trivial⟩
              · refine zst ?_
                exact ⟨rfl, rfl, rfl, rfl, rfl, rfl, rfl, trivial⟩
            · refine zst ?_
              exact ⟨rfl, rfl, rfl, rfl, rfl, rfl, rfl, trivial⟩
        · refine zst ?_
          cases A3 : ((k : Int) == 0)
          · refine zst ?_
            refine WU.yld rfl rfl rfl (yld_index_str rfl rfl hc) ?_
            refine zst ?_
            cases A4 : decide ((c.toNat : Int) < 48)
            · refine zst ?_
              refine WU.yld rfl rfl rfl (yld_index_str rfl rfl hc) ?_
              refine zst ?_
              exact ⟨rfl, rfl, rfl, rfl, rfl, rfl, rfl, trivial⟩
            · refine zst ?_
              exact ⟨rfl, rfl, rfl, rfl, rfl, rfl, rfl, trivial⟩
          · refine zst ?_
            exact ⟨rfl, rfl, rfl, rfl, rfl, rfl, rfl, trivial⟩
      cases hE : ((decide (or32 c < 97) || decide (or32 c > 122)) && (((k : Int) == 0) || (decide ((c.toNat : Int) < 48) || decide ((c.toNat : Int) > 57))))
      · refine zst ?_
        exact ⟨k + 1, by omega, ⟨rfl, by omega, rfl, fun j c' hj hc' => by
          by_cases hjk : j = k
          · subst hjk
            rw [hc] at hc'
            cases hc'
            have ho := or32_eq c
            simp only [Bool.and_eq_false_imp, Bool.or_eq_true, decide_eq_true_eq, Bool.or_eq_false_iff, decide_eq_false_iff_not, beq_eq_false_iff_ne] at hE
            by_cases hL : letter c = true
            · exact .inl hL
            · have hL' : or32 c < 97 ∨ or32 c > 122 := by
                unfold letter at hL
                simp only [Bool.and_eq_true, decide_eq_true_eq] at hL
                omega
              have h2 := hE hL'
              refine .inr ⟨by omega, ?_⟩
              unfold digit
              simp only [Bool.and_eq_true, decide_eq_true_eq]
              omega
          · exact hall j c' (by omega) hc'⟩, sub_of ⟨rfl, rfl, rfl, rfl, trivial⟩⟩
      · refine zst ?_
        exact fin1 (.inl rfl) rfl rfl ⟨false, rfl, fun h => Bool.noConfusion h, rfl⟩
    · rw [show decide ((k : Int) < (nm.size : Int)) = false by simpa using hlt]
      refine zst ?_
      refine fin1 (.inl rfl) rfl rfl ⟨_, rfl, fun h => ⟨?_, .inr fun j c hc => hall j c (by have := (List.getElem?_eq_some_iff.1 hc).1; omega) hc⟩, rfl⟩
      rw [E0_list] at h
      simpa using h
  · refine zst ?_
    refine fin1 (.inl rfl) rfl rfl ⟨true, rfl, fun _ => ⟨?_, .inl (by simpa using h0)⟩, rfl⟩
    rw [show nm.toList = us by simpa using h0]; simp [us]
end Go.Proofs.YtpiegpegjbmlkaaGreatDoor
namespace Go.Kd
/-- a slice of strings -/
structure StrV (w : World) (p : Nat → Prop) (v : Value) (l : List ByteArray) : Prop where
  el : ∃ a cp f, v = .slice a l.length cp ∧ l.length ≤ cp ∧ SlC w p 1 a l.length f ∧ ∀ (i : Nat) s, l[i]? = some s → f i = [.string s]
theorem StrV.ext {w w' : World} (x : Ext w w') {p : Nat → Prop} {v : Value} {l : List ByteArray} (h : StrV w p v l) : StrV w' p v l := by
  obtain ⟨a, cp, f, h1, h0, h2, h3⟩ := h
  exact ⟨a, cp, f, h1, h0, h2.ext x, h3⟩
theorem StrV.mono {w : World} {p q : Nat → Prop} (hq : ∀ b, p b → q b) {v : Value} {l : List ByteArray} (h : StrV w p v l) : StrV w q v l := by
  obtain ⟨a, cp, f, h1, h0, h2, h3⟩ := h
  exact ⟨a, cp, f, h1, h0, h2.mono hq, h3⟩
theorem StrV.shape {w : World} {p : Nat → Prop} {v : Value} {l : List ByteArray} (h : StrV w p v l) : ∃ a cp, v = .slice a l.length cp ∧ l.length ≤ cp := by
  obtain ⟨a, cp, f, h1, h0, _⟩ := h; exact ⟨a, cp, h1, h0⟩
theorem StrV.cell {w : World} {p : Nat → Prop} {a : Option Addr} {n cp : Nat} {l : List ByteArray} (h : StrV w p (.slice a n cp) l) {i : Nat} {s : ByteArray} (hs : l[i]? = some s) : ∃ b o, a = some ⟨b, o, none⟩ ∧ p b ∧ w.cell? ⟨b, o + i * 1, none⟩ = some (.string s) := by
  obtain ⟨a', cp', f, h0, _, h1, h2⟩ := h
  cases h0
  have hlt : i < l.length := (List.getElem?_eq_some_iff.1 hs).1
  obtain ⟨b, o, h3, h4, h5⟩ := h1 i hlt
  rw [h2 i s hs] at h5
  exact ⟨b, o, h3, h4, h5 0 _ rfl⟩

/-- one more cell -/
theorem stp_append_cell {P : Program} {e : Env} {d : Option Tmp} {ty t : TypeId} {pos : String} {aft : Array Edge} {g : Option (Nat × Bool)} {x y : Operand} {w : World} {el : Nat} {z : Value} [hu : Und P t (.slice el)] [hz : Zro P el [z]] [hi : Inf P el 1] [hb : Byt P el] {base : Nat} {v : Value} {ls : List (List Value)} {b c' : Nat} {u : Value}
    (hx : ev e x = some v) (hy : ev e y = some (.slice (some ⟨b, 0, none⟩) 1 c')) (ho : Own w base el 1 v ls) (hc : w.cell? ⟨b, 0, none⟩ = some u) (h1 : u.oneCell' = true) (hn : ls.length ≤ 1073741824) (hbase : base ≤ w.heap.size) :
    Stp P e ⟨d, .call ⟨.builtin .append, #[x, y], #[t, t]⟩, ty, pos, aft, g⟩ w (fun v' w' => Own w' base el 1 v' (ls ++ [[u]]) ∧ App w w' v ∧ (∀ g, v'.ownBlock = some g → v.ownBlock = some g ∨ g = w.heap.size)) :=
  stp_append1 (sz := 1) (zs := [z]) hx hy ho (fun j v' hv => by
    match j with
    | 0 => simp at hv; subst hv; exact hc
    | j + 1 => simp at hv) rfl rfl (by decide) (fun u' hu' => by simp at hu'; subst hu'; exact h1) hn hbase
theorem Own.strs {w : World} {base el : Nat} {v : Value} {l : List ByteArray} (h : Own w base el 1 v (l.map fun s => [.string s])) : StrV w (fun b => v.ownBlock = some b) v l := by
  obtain ⟨a, cp, h1, h2, h3⟩ := h.shape
  simp only [List.length_map] at h1 h2 h3
  exact ⟨a, cp, _, h1, h2, h3, fun i s hs => by
    have hlt : i < l.length := (List.getElem?_eq_some_iff.1 hs).1
    have : l[i] = s := by rw [List.getElem?_eq_getElem hlt] at hs; exact Option.some.inj hs
    simp [List.getD, hlt, this]⟩
end Go.Kd
namespace Go.Proofs.YtpiegpegjbmlkaaGreatDoor
open Go Go.Kd
set_option maxRecDepth 100000

def tnames (l : List Ty) : List ByteArray := l.map fun t => t.name
theorem tnames_list (l : List Ty) : (tnames l).map ByteArray.toList = names l := by simp [tnames, names]

theorem c_namesOf (l : List Ty) (a : Option Addr) (cp : Nat) (w : World) (p : Nat → Prop) (ht : TysV w p a cp l) (hln : l.length ≤ 1073741824) :
    Calls Tryz.prog 64 #[.slice a l.length cp] w (Ret fun r w' => StrV w' (fun b => w.heap.size ≤ b ∧ b < w'.heap.size) r (tnames l) ∧ Own w' w.heap.size 9 1 r ((tnames l).map fun s => [.string s]) ∧ Ext w w') := by
  refine W.enter (args := [.slice a l.length cp]) Tryz.func64 rfl Tryz.ntmps64 rfl rfl ?_
  refine zst ?_
  refine W.loop (σ := Nat × Value) (fun (k, v) => [(8, .int .i64 k), (7, .int .i64 l.length), (6, .slice a l.length cp), (3, v)])
    (fun (k, v) D' wk => D' = [] ∧ k ≤ l.length ∧ Ext w wk ∧ Own wk w.heap.size 9 1 v ((tnames (l.take k)).map fun s => [.string s]))
    (fun (k, _) => l.length - k) (0, .slice none 0 0) ⟨rfl, Nat.zero_le _, Ext.rfl' _, Own.nil ..⟩ (by exact sub_of ⟨rfl, rfl, rfl, rfl, trivial⟩) ?_
  rintro ⟨k, v⟩ D' wr ⟨rfl, hk, xr, ho⟩
  have hsz := xr.size
  refine zst ?_
  by_cases hlt : k < l.length
  · rw [show decide ((k : Int) < (l.length : Int)) = true by simpa using hlt]
    have he := List.getElem?_eq_getElem hlt
    have htk : (tnames (l.take (k + 1))).map (fun s => [Value.string s]) = (tnames (l.take k)).map (fun s => [Value.string s]) ++ [[.string l[k].name]] := by
      rw [List.take_add_one, he]; simp only [tnames, List.map_append, Option.toList, List.map_cons, List.map_nil]
    generalize l[k] = e at he htk
    obtain ⟨b, o, a3, c3, rfl, hpb, hc, hte⟩ := ht.next he
    have hc' : Cells wr b (o + k * 8) (tyc e a3 c3) := hc.ext xr
    refine zst ?_
    refine WU.yld rfl rfl rfl (yld_load_cells rfl hc') ?_
    refine WU.stp rfl rfl rfl stp_alloc ?_
    rintro _ w3 ⟨b3, rfl, n3⟩
    refine WU.stp0 rfl rfl (stp_store_whole rfl rfl rfl rfl) ?_
    rintro _ w4 u4
    have x4 : Ext wr w4 := (u4.ofNew n3).ext
    have i4 : Has w4 b3 _ := u4.has
    have s4 := x4.size
    clear u4 n3
    refine zst ?_
    refine WU.stp rfl rfl rfl (stp_buildSlice rfl rfl rfl rfl rfl) ?_
    rintro _ w5 ⟨b5, rfl, n5⟩
    refine WU.stp rfl rfl rfl (stp_append_cell rfl rfl (ho.ext (x4.trans n5.ext)) (cell_of n5.has rfl) rfl (by simp [tnames]; omega) (by have := n5.ext.size; omega)) ?_
    rintro v6 w6 ⟨h1, h2, h3⟩
    refine zst ?_
    have x6 := h2.ext (ho.ext (x4.trans n5.ext)) (xr.trans (x4.trans n5.ext)) (Nat.le_refl _)
    exact ⟨(k + 1, v6), by show l.length - (k + 1) < l.length - k; omega, ⟨rfl, by omega, x6, by rw [htk]; exact h1⟩, sub_of ⟨rfl, rfl, rfl, rfl, trivial⟩⟩
  · rw [show decide ((k : Int) < (l.length : Int)) = false by simpa using hlt]
    refine zst ?_
    have : l.take k = l := List.take_of_length_le (by omega)
    rw [this] at ho
    have hl := ho.lt
    exact fin1 (.inl rfl) rfl rfl ⟨(ho.strs).mono fun b hb => hl b hb, ho, xr⟩

theorem c_unnamed (l : List Ty) (a : Option Addr) (cp : Nat) (w : World) (p : Nat → Prop) (ht : TysV w p a cp l) (hln : l.length ≤ 1073741824) :
    Calls Tryz.prog 65 #[.slice a l.length cp] w (Ret fun r w' => ∃ b, r = .bool b ∧ (b = true → unnamedT l) ∧ Ext w w') := by
  refine W.enter (args := [.slice a l.length cp]) Tryz.func65 rfl Tryz.ntmps65 rfl rfl ?_
  refine zst ?_
  refine W.loop (σ := Nat) (fun k => [(7, .int .i64 k), (6, .int .i64 l.length), (5, .slice a l.length cp), (2, .bool false)])
    (fun k D' wk => D' = [] ∧ k ≤ l.length ∧ Ext w wk ∧ ∀ (j : Nat) e, j < k → l[j]? = some e → e.name.toList = [])
    (fun k => l.length - k) 0 ⟨rfl, Nat.zero_le _, Ext.rfl' _, fun j e h => by omega⟩ (by exact sub_of ⟨rfl, rfl, rfl, rfl, trivial⟩) ?_
  rintro k D' wr ⟨rfl, hk, xr, hall⟩
  refine zst ?_
  by_cases hlt : k < l.length
  · rw [show decide ((k : Int) < (l.length : Int)) = true by simpa using hlt]
    have he := List.getElem?_eq_getElem hlt
    generalize l[k] = e at he
    obtain ⟨b, o, a3, c3, rfl, hpb, hc, hte⟩ := ht.next he
    have hc' : Cells wr b (o + k * 8) (tyc e a3 c3) := hc.ext xr
    refine zst ?_
    refine WU.yld rfl rfl rfl (yld_load_cells rfl hc') ?_
    refine WU.stp rfl rfl rfl stp_alloc ?_
    rintro _ w3 ⟨b3, rfl, n3⟩
    refine WU.stp0 rfl rfl (stp_store_whole rfl rfl rfl rfl) ?_
    rintro _ w4 u4
    have x4 : Ext wr w4 := (u4.ofNew n3).ext
    have i4 : Has w4 b3 _ := u4.has
    clear u4 n3
    refine zst ?_
    rw [E0_list]
    cases hn : (e.name.toList == [])
    · refine zst ?_
      exact fin1 (.inl rfl) rfl rfl ⟨false, rfl, fun h => Bool.noConfusion h, xr.trans x4⟩
    · refine zst ?_
      exact ⟨k + 1, by omega, ⟨rfl, by omega, xr.trans x4, fun j e' hj he' => by
        by_cases hjk : j = k
        · subst hjk; rw [he] at he'; cases he'; simpa using hn
        · exact hall j e' (by omega) he'⟩, sub_of ⟨rfl, rfl, rfl, rfl, trivial⟩⟩
  · rw [show decide ((k : Int) < (l.length : Int)) = false by simpa using hlt]
    refine zst ?_
    refine fin1 (.inl rfl) rfl rfl ⟨true, rfl, fun _ e he => ?_, xr⟩
    obtain ⟨j, hj⟩ := List.getElem?_of_mem he
    exact hall j e (by have := (List.getElem?_eq_some_iff.1 hj).1; omega) hj

theorem c_unique (l : List ByteArray) (v : Value) (w : World) (p : Nat → Prop) (hv : StrV w p v l) (hln : l.length ≤ 1073741824) (hs : ∀ s ∈ l, s.size ≤ 9223372036854775807) :
    Calls Tryz.prog 63 #[v] w (Ret fun r w' => ∃ b, r = .bool b ∧ (b = true → Uniq (l.map ByteArray.toList)) ∧ w = w') := by
  obtain ⟨a, cp, rfl, hcp⟩ := hv.shape
  refine W.enter (args := [.slice a l.length cp]) Tryz.func63 rfl Tryz.ntmps63 rfl rfl ?_
  refine zst ?_
  refine W.loop (σ := Nat) (fun k => [(9, .int .i64 k), (8, .int .i64 l.length), (7, .slice a l.length cp), (2, .bool false), (0, .slice a l.length cp)])
    (fun k D' wk => D' = [] ∧ k ≤ l.length ∧ w = wk ∧ (∀ (j : Nat) s, j < k → l[j]? = some s → Ident s.toList) ∧ ∀ (i j : Nat) s s', i < j → j < k → l[i]? = some s → l[j]? = some s' → s.toList = s'.toList → s'.toList = us)
    (fun k => l.length - k) 0 ⟨rfl, Nat.zero_le _, rfl, fun j e h => by omega, fun i j s s' h1 h2 => by omega⟩ (by exact sub_of ⟨rfl, rfl, rfl, rfl, rfl, trivial⟩) ?_
  rintro k D' wr ⟨rfl, hk, rfl, hall, hun⟩
  refine zst ?_
  by_cases hlt : k < l.length
  · rw [show decide ((k : Int) < (l.length : Int)) = true by simpa using hlt]
    have he := List.getElem?_eq_getElem hlt
    have hms := hs l[k] (List.getElem_mem hlt)
    generalize l[k] = s at he hms
    obtain ⟨b, o, rfl, hpb, hc⟩ := hv.cell he
    refine zst ?_
    refine WU.yld rfl rfl rfl (yld_load_c rfl hc) ?_
    refine zst ?_
    refine WU.stp rfl rfl rfl (stp_call rfl (c_isIdentifier s w hms)) ?_
    rintro _ w2 ⟨bi, rfl, hbi, rfl⟩
    cases bi
    · refine zst ?_
      exact fin1 (.inl rfl) rfl rfl ⟨false, rfl, fun h => Bool.noConfusion h, rfl⟩
    · refine zst ?_
      refine W.loop (σ := Nat) (fun m => [(21, .int .i64 m), (20, .int .i64 k), (19, .slice (some ⟨b, o, none⟩) k cp), (4, .string s), (9, .int .i64 k), (8, .int .i64 l.length), (7, .slice (some ⟨b, o, none⟩) l.length cp), (2, .bool false), (0, .slice (some ⟨b, o, none⟩) l.length cp)])
        (fun m D' wk => D' = [] ∧ m ≤ k ∧ w = wk ∧ ∀ (j : Nat) s', j < m → l[j]? = some s' → s'.toList = s.toList → s.toList = us)
        (fun m => k - m) 0 ⟨rfl, Nat.zero_le _, rfl, fun j e h => by omega⟩ (by exact sub_of ⟨rfl, rfl, rfl, rfl, rfl, rfl, rfl, rfl, rfl, trivial⟩) ?_
      rintro m D' wr ⟨rfl, hm, rfl, hall2⟩
      refine zst ?_
      by_cases hmt : m < k
      · rw [show decide ((m : Int) < (k : Int)) = true by simpa using hmt]
        have he2 := List.getElem?_eq_getElem (show m < l.length by omega)
        generalize l[m] = s2 at he2
        obtain ⟨b', o', hb', _, hc2⟩ := hv.cell he2
        cases hb'
        refine zst ?_
        refine WU.yld rfl rfl rfl (yld_load_c rfl hc2) ?_
        refine zst ?_
        cases heq : (s.toList == s2.toList)
        · refine zst ?_
          exact ⟨m + 1, by omega, ⟨rfl, by omega, rfl, fun j s' hj hs' h => by
            by_cases hjk : j = m
            · subst hjk; rw [he2] at hs'; cases hs'; simp [h] at heq
            · exact hall2 j s' (by omega) hs' h⟩, sub_of ⟨rfl, rfl, rfl, rfl, rfl, rfl, rfl, rfl, rfl, trivial⟩⟩
        · refine zst ?_
          rw [us_list]
          cases hus : (s.toList == us)
          · refine zst ?_
            exact fin1 (.inl rfl) rfl rfl ⟨false, rfl, fun h => Bool.noConfusion h, rfl⟩
          · refine zst ?_
            exact ⟨m + 1, by omega, ⟨rfl, by omega, rfl, fun j s' _ _ _ => by simpa using hus⟩, sub_of ⟨rfl, rfl, rfl, rfl, rfl, rfl, rfl, rfl, rfl, trivial⟩⟩
      · rw [show decide ((m : Int) < (k : Int)) = false by simpa using hmt]
        refine zst ?_
        have hmk : m = k := by omega
        subst hmk
        exact ⟨m + 1, by omega, ⟨rfl, by omega, rfl, fun j s' hj hs' => by
          by_cases hjk : j = m
          · subst hjk; rw [he] at hs'; cases hs'; exact hbi rfl
          · exact hall j s' (by omega) hs', fun i j s1 s' hij hj h1 h2 h3 => by
          by_cases hjk : j = m
          · subst hjk; rw [he] at h2; cases h2; exact hall2 i s1 hij h1 h3
          · exact hun i j s1 s' hij (by omega) h1 h2 h3⟩, sub_of ⟨rfl, rfl, rfl, rfl, rfl, trivial⟩⟩
  · rw [show decide ((k : Int) < (l.length : Int)) = false by simpa using hlt]
    refine zst ?_
    have hkl : k = l.length := by omega
    refine fin1 (.inl rfl) rfl rfl ⟨true, rfl, fun _ => ⟨fun i s hs' => ?_, fun i j s hij h1 h2 => ?_⟩, rfl⟩
    · rw [List.getElem?_map] at hs'
      cases hl : l[i]? with
      | none => rw [hl] at hs'; cases hs'
      | some u =>
        rw [hl] at hs'
        cases hs'
        exact hall i u (by have := (List.getElem?_eq_some_iff.1 hl).1; omega) hl
    · rw [List.getElem?_map] at h1 h2
      cases hl : l[i]? with
      | none => rw [hl] at h1; cases h1
      | some u =>
        cases hl2 : l[j]? with
        | none => rw [hl2] at h2; cases h2
        | some u2 =>
          rw [hl] at h1
          rw [hl2] at h2
          simp only [Option.map_some, Option.some.injEq] at h1 h2
          have := hun i j u u2 hij (by have := (List.getElem?_eq_some_iff.1 hl2).1; omega) hl hl2 (h1.trans h2.symm)
          rw [← h2]; exact this
end Go.Proofs.YtpiegpegjbmlkaaGreatDoor
namespace Go.Kd
/-! A walk in parts. -/
def headA (r : Nat) : Code → Bool
  | .region i _ _ => Nat.beq i r
  | .seq a _ => headA r a
  | _ => false
/-- what lies from region r on -/
def dropA (r : Nat) : Code → Option Code
  | .seq a b => match headA r a with
    | true => some (.seq a b)
    | false => dropA r b
  | _ => none
def bodyA (f : Func) : Code := f.body.getD .skip
theorem W.useA {P : Program} {n k : Nat} {Q : Post} {D : List Deferred} {e e' : Env} {w : World} {b c' : Code} (h : ∃ c, dropA k b = some c ∧ W P n c Q D e' w) (hb : dropA k b = some c') (hs : subs e e') : W P n c' Q D e w := by
  obtain ⟨c, h1, h2⟩ := h
  cases h1.symm.trans hb
  exact h2.sub (sub_of hs)
end Go.Kd
namespace Go.Proofs.YtpiegpegjbmlkaaGreatDoor
open Go Go.Kd
set_option maxRecDepth 100000

theorem TysV.take {w : World} {p : Nat → Prop} {a : Option Addr} {cp : Nat} {l : List Ty} (h : TysV w p a cp l) (c : Nat) : TysV w p a cp (l.take c) := by
  obtain ⟨h0, f, h1, h2⟩ := h
  refine ⟨by simp; omega, f, h1.take (by simp; omega), fun i e he => ?_⟩
  rw [List.getElem?_take] at he
  split at he
  · exact h2 i e he
  · cases he
theorem TysV.past {w : World} {p : Nat → Prop} {a : Option Addr} {cp : Nat} {l : List Ty} (h : TysV w p a cp l) (c : Nat) : TysV w p (past a c cp 8) (cp - c) (l.drop c) := by
  obtain ⟨h0, f, h1, h2⟩ := h
  refine ⟨by simp; omega, fun i => f (c + i), by rw [List.length_drop]; exact h1.past h0, fun i e he => h2 (c + i) e (by rw [← List.getElem?_drop]; exact he)⟩

def basicB : List ByteArray := basicNm.map fun l => ⟨l.toArray⟩
theorem c_basicName (n : Int) (w : World) (h0 : 0 ≤ n) (h1 : n < 22) :
    Calls Tryz.prog 141 #[.int .i64 n] w (Ret fun r w' => ∃ s : ByteArray, r = .string s ∧ s.toList = basicNm.getD n.toNat [] ∧ w = w') := by
  refine W.enter (args := [.int .i64 n]) Tryz.func141 rfl Tryz.ntmps141 rfl rfl ?_
  refine zst ?_
  refine WU.yld rfl rfl rfl (yld_buildArr (z := List.replicate 22 (.string eB)) (r := basicB.map fun s => .string s) rfl rfl) ?_
  refine zst ?_
  have hlt : n.toNat < basicB.length := by have : basicB.length = 22 := rfl; omega
  refine WU.yld rfl rfl rfl (yld_index_arr (v := .string basicB[n.toNat]) rfl rfl h0 (by omega) (by rw [List.getElem?_map, List.getElem?_eq_getElem hlt]; rfl)) ?_
  refine zst ?_
  refine fin1 (.inl rfl) rfl rfl ⟨_, rfl, ?_, rfl⟩
  have hlt' : n.toNat < basicNm.length := by have : basicNm.length = 22 := rfl; omega
  rw [Lib.toList_data, List.getD_eq_getElem?_getD, List.getElem?_eq_getElem hlt']
  simp [basicB]

theorem c_TypeName {D : List De} {t : Ty} (hG : Good D t) (a : Option Addr) (cp : Nat) (a1 : Option Addr) (c1 : Nat) (w : World) {p : Nat → Prop} (hd : DsV w p (.slice a D.length cp) D) :
    Calls Tryz.prog 92 #[.slice a D.length cp, .agg (tyc t a1 c1).toArray] w (Ret fun r w' => ∃ s : ByteArray, r = .string s ∧ s.toList = typeNm D t ∧ Ext w w') := by
  refine W.enter (args := [.slice a D.length cp, .agg (tyc t a1 c1).toArray]) Tryz.func92 rfl Tryz.ntmps92 rfl rfl ?_
  refine zst ?_
  refine WU.stp rfl rfl rfl (by first | exact stp_box rfl rfl | exact stp_box1 rfl rfl) ?_
  rintro _ w1 ⟨b1, rfl, n1⟩
  refine zst ?_
  unfold typeNm
  cases k1 : (t.kind == 1)
  · rw [if_neg (by simpa using k1)]
    refine zst ?_
    cases k0 : (t.kind == 0)
    · rw [if_neg (by simpa using k0)]
      refine zst ?_
      exact fin1 (.inl rfl) rfl rfl ⟨_, rfl, E0_list, n1.ext⟩
    · rw [if_pos (by simpa using k0)]
      have hk : t.kind = 0 := by simpa using k0
      obtain ⟨i, v, hi, hs⟩ := hG.sh
      have g0 := hs.shape.n0 (by rw [hk]; simp [limitN])
      have g1 := hs.shape.n1 (by rw [hk]; simp [limitN])
      rw [hk] at g1
      simp [limitN] at g1
      refine zst ?_
      refine WU.stp rfl rfl rfl (stp_call rfl (c_basicName t.n w1 g0 g1)) ?_
      rintro _ w2 ⟨s, rfl, hs', rfl⟩
      refine zst ?_
      exact fin1 (.inl rfl) rfl rfl ⟨_, rfl, hs', n1.ext⟩
  · rw [if_pos (by simpa using k1)]
    have hk : t.kind = 1 := by simpa using k1
    obtain ⟨e, he⟩ := hG.decl hk
    obtain ⟨g0, g1⟩ := hG.named hk
    obtain ⟨b, o, a3, c3, a4, c4, f, rfl, _, hc, hte, _⟩ := hd.next he
    have hc' : Cells w1 b (o + t.n.toNat * 12) (del e a3 c3 a4 c4) := hc.ext n1.ext
    refine zst ?_
    refine WU.yld rfl rfl rfl (yld_load_cellsI rfl hc' rfl) ?_
    refine zst ?_
    exact fin1 (.inl rfl) rfl rfl ⟨_, rfl, by rw [he], n1.ext⟩

theorem Good.len1 {D : List De} {t : Ty} (h : Good D t) (hk : elemsN t.kind = 1) : t.elems.length = 1 := by
  obtain ⟨i, v, hi, hs⟩ := h.sh
  have := hs.shape.len (by omega)
  omega

set_option maxHeartbeats 4000000 in
theorem c_mayEmbed {D : List De} (hD : OkD D) {t : Ty} (hG : Good D t) (a : Option Addr) (cp : Nat) (a1 : Option Addr) (c1 : Nat) (w : World) {p : Nat → Prop} (hp : ∀ b, p b → b < w.heap.size) (hd : DsV w p (.slice a D.length cp) D) (ht : TysV w p a1 c1 t.elems) :
    Calls Tryz.prog 62 #[.slice a D.length cp, .agg (tyc t a1 c1).toArray] w (Ret fun r w' => ∃ b, r = .bool b ∧ (b = true → ∃ e, MayEmb D t e) ∧ Ext w w') := by
  refine W.enter (args := [.slice a D.length cp, .agg (tyc t a1 c1).toArray]) Tryz.func62 rfl Tryz.ntmps62 rfl rfl ?_
  refine zst ?_
  refine WU.stp rfl rfl rfl (by first | exact stp_box rfl rfl | exact stp_box1 rfl rfl) ?_
  rintro _ w1 ⟨b1, rfl, n1⟩
  refine zst ?_
  refine WU.stp rfl rfl rfl stp_alloc ?_
  rintro _ w2 ⟨b2, rfl, n2⟩
  refine WU.stp0 rfl rfl (stp_store_whole rfl rfl rfl rfl) ?_
  rintro _ w3 u3
  have e1 := n1.num
  have s1 := n1.size
  have e2 := n2.num
  have s2 := n2.size
  have x3 : Ext w w3 := n1.ext.trans (u3.ofNew n2).ext
  have i1 : Has w3 b1 _ := u3.keep (n1.has.ext' n2.ext) (by omega)
  have i2 : Has w3 b2 _ := u3.has
  clear u3 n1 n2
  refine WU.nilk ?_
  have main : ∀ (w4 : World) (e : Ty) (ae : Option Addr) (ce : Nat), Ext w w4 → Has w4 b1 (.cells (tyc t a1 c1).toArray 26) → Has w4 b2 (.cells (tyc e ae ce).toArray 26) → Good D e → TysV w p ae ce e.elems →
      ((t.kind = 2 ∧ t.elems[0]? = some e) ∨ (t.kind ≠ 2 ∧ e = t)) →
      ∃ c, dropA 4 (bodyA Tryz.f62) = some c ∧ W Tryz.prog 54 c (fin Tryz.prog Tryz.f62 (Ret fun r w' => ∃ b, r = .bool b ∧ (b = true → ∃ e, MayEmb D t e) ∧ Ext w w')) [] [(5, .pointer (some ⟨b2, 0, none⟩)), (4, .bool false), (3, .pointer (some ⟨b1, 0, none⟩)), (0, .slice a D.length cp)] w4 := by
    intro w4 e ae ce x4 i1 i2 hGe hte hel
    refine ⟨_, rfl, ?_⟩
    refine zst ?_
    have sz4 := x4.size
    refine WU.stp rfl rfl rfl (stp_call rfl (c_Underlying hD hGe a cp ae ce w4 (fun b hb => by have := hp b hb; omega) (hd.ext x4) (hte.ext x4))) ?_
    rintro _ w5 ⟨a5, c5, rfl, ht5, x5⟩
    have hGu := hGe.under hD
    obtain ⟨u, hu⟩ : ∃ u, underT D e = u := ⟨_, rfl⟩
    rw [hu]
    have j1 : Has w5 b1 _ := i1.ext' x5
    have j2 : Has w5 b2 _ := i2.ext' x5
    refine WU.stp rfl rfl rfl stp_alloc ?_
    rintro _ w6 ⟨b6, rfl, n6⟩
    refine WU.stp0 rfl rfl (stp_store_whole rfl rfl rfl rfl) ?_
    rintro _ w7 u7
    have x7 : Ext w5 w7 := (u7.ofNew n6).ext
    have k1 : Has w7 b1 _ := j1.ext' x7
    have k2 : Has w7 b2 _ := j2.ext' x7
    have k6 : Has w7 b6 _ := u7.has
    clear u7 n6 j1 j2
    refine zst ?_
    have xf : ∀ w', Ext w7 w' → ∃ b, Value.bool false = .bool b ∧ (b = true → ∃ e, MayEmb D t e) ∧ Ext w w' := fun w' x => ⟨false, rfl, fun h => Bool.noConfusion h, x4.trans (x5.trans (x7.trans x))⟩
    refine W.regD [(0, .q), (1, .q), (2, .q), (3, .q), (4, .q), (5, .q), (6, .q), (7, .q), (8, .q), (9, .q), (10, .q), (11, .q), (12, .q), (13, .l), (14, .q), (15, .q), (16, .q), (17, .q), (18, .q), (19, .q), (20, .q), (21, .q), (22, .q), (23, .l), (24, .q), (25, .q), (26, .q), (27, .q), (28, .q), (29, .q), (30, .q), (31, .q), (32, .q), (33, .q), (34, .q), (35, .q), (36, .q)] (by kernel_rfl) (by kernel_rfl) rfl ?_
    intro w8 x8 _
    have l1 : Has w8 b1 _ := k1.ext' x8
    have l2 : Has w8 b2 _ := k2.ext' x8
    have l6 : Has w8 b6 _ := k6.ext' x8
    refine zsd ?_
    cases g1 : (e.kind == 1)
    · refine zsd ?_
      cases g0 : (e.kind == 0)
      · refine zsd ?_
        refine zst ?_
        exact fin1 (.inl rfl) rfl rfl (xf _ x8)
      · refine zsd ?_
        refine WD.stp rfl rfl rfl rfl (stp_call rfl (c_TypeName hGe a cp ae ce w8 (hd.ext (x4.trans (x5.trans (x7.trans x8)))))) ?_
        rintro _ w9 ⟨sn, rfl, hsn, x9⟩
        refine ⟨by first | assumption | exact Ext.rfl' _ | infer_instance, ?_⟩
        have m6 : Has w9 b6 _ := l6.ext' x9
        have m1 : Has w9 b1 _ := l1.ext' x9
        refine zsd ?_
        cases q1 : (t.name.toList == sn.toList)
        · refine zsd ?_
          refine zst ?_
          exact fin1 (.inl rfl) rfl rfl (xf _ (x8.trans x9))
        · refine zsd ?_
          cases q2 : (u.kind != 2)
          · refine zsd ?_
            refine zst ?_
            exact fin1 (.inl rfl) rfl rfl (xf _ (x8.trans x9))
          · refine zsd ?_
            refine WD.stp rfl rfl rfl rfl (stp_call rfl (c_isUnsafePointer u a5 c5 w9)) ?_
            rintro _ w10 ⟨rfl, x10⟩
            refine ⟨by first | assumption | exact Ext.rfl' _ | infer_instance, ?_⟩
            have o6 : Has w10 b6 _ := m6.ext' x10
            have o1 : Has w10 b1 _ := m1.ext' x10
            cases q3 : (u.kind == 0 && u.n == 17)
            · refine zsd ?_
              have hem : (t.kind = 2 → u.kind ≠ 9) → ∃ e, MayEmb D t e := fun h9 => ⟨e, hel, .inl (by simpa using g0), by rw [show t.name.toList = sn.toList by simpa using q1]; exact hsn, by rw [hu]; simpa using q2, by rw [hu]; intro ⟨z1, z2⟩; simp [z1, z2] at q3, fun h => by rw [hu]; exact h9 h⟩
              cases q4 : (t.kind != 2)
              · refine zsd ?_
                refine zst ?_
                exact fin1 (.inl rfl) rfl rfl ⟨_, rfl, fun h => hem fun _ => by simpa using h, x4.trans (x5.trans (x7.trans (x8.trans (x9.trans x10))))⟩
              · refine zsd ?_
                refine zst ?_
                exact fin1 (.inl rfl) rfl rfl ⟨_, rfl, fun h => hem fun h2 => by simp [h2] at q4, x4.trans (x5.trans (x7.trans (x8.trans (x9.trans x10))))⟩
            · refine zsd ?_
              refine zst ?_
              exact fin1 (.inl rfl) rfl rfl (xf _ (x8.trans (x9.trans x10)))
    · refine zsd ?_
      refine WD.stp rfl rfl rfl rfl (stp_call rfl (c_TypeName hGe a cp ae ce w8 (hd.ext (x4.trans (x5.trans (x7.trans x8)))))) ?_
      rintro _ w9 ⟨sn, rfl, hsn, x9⟩
      refine ⟨by first | assumption | exact Ext.rfl' _ | infer_instance, ?_⟩
      have m6 : Has w9 b6 _ := l6.ext' x9
      have m1 : Has w9 b1 _ := l1.ext' x9
      refine zsd ?_
      cases q1 : (t.name.toList == sn.toList)
      · refine zsd ?_
        refine zst ?_
        exact fin1 (.inl rfl) rfl rfl (xf _ (x8.trans x9))
      · refine zsd ?_
        cases q2 : (u.kind != 2)
        · refine zsd ?_
          refine zst ?_
          exact fin1 (.inl rfl) rfl rfl (xf _ (x8.trans x9))
        · refine zsd ?_
          refine WD.stp rfl rfl rfl rfl (stp_call rfl (c_isUnsafePointer u a5 c5 w9)) ?_
          rintro _ w10 ⟨rfl, x10⟩
          refine ⟨by first | assumption | exact Ext.rfl' _ | infer_instance, ?_⟩
          have o6 : Has w10 b6 _ := m6.ext' x10
          have o1 : Has w10 b1 _ := m1.ext' x10
          cases q3 : (u.kind == 0 && u.n == 17)
          · refine zsd ?_
            have hem : (t.kind = 2 → u.kind ≠ 9) → ∃ e, MayEmb D t e := fun h9 => ⟨e, hel, .inr (by simpa using g1), by rw [show t.name.toList = sn.toList by simpa using q1]; exact hsn, by rw [hu]; simpa using q2, by rw [hu]; intro ⟨z1, z2⟩; simp [z1, z2] at q3, fun h => by rw [hu]; exact h9 h⟩
            cases q4 : (t.kind != 2)
            · refine zsd ?_
              refine zst ?_
              exact fin1 (.inl rfl) rfl rfl ⟨_, rfl, fun h => hem fun _ => by simpa using h, x4.trans (x5.trans (x7.trans (x8.trans (x9.trans x10))))⟩
            · refine zsd ?_
              refine zst ?_
              exact fin1 (.inl rfl) rfl rfl ⟨_, rfl, fun h => hem fun h2 => by simp [h2] at q4, x4.trans (x5.trans (x7.trans (x8.trans (x9.trans x10))))⟩
          · refine zsd ?_
            refine zst ?_
            exact fin1 (.inl rfl) rfl rfl (xf _ (x8.trans (x9.trans x10)))
  (repeat ((fail_if_success guard_target =~ gW (.seq (.region 4 _ _) _)); (fail_if_success guard_target =~ gW (.seq (.seq (.region 4 _ _) _) _)); refine zs1 ?_))
  cases k2 : (t.kind == 2)
  · (repeat ((fail_if_success guard_target =~ gW (.seq (.region 4 _ _) _)); (fail_if_success guard_target =~ gW (.seq (.seq (.region 4 _ _) _) _)); refine zs1 ?_))
    exact W.useA (main _ t a1 c1 x3 i1 i2 hG ht (.inr ⟨by simpa using k2, rfl⟩)) rfl ⟨rfl, rfl, rfl, rfl, trivial⟩
  · have hk : t.kind = 2 := by simpa using k2
    have hl := hG.len1 (by rw [hk]; rfl)
    have he := List.getElem?_eq_getElem (show 0 < t.elems.length by omega)
    generalize t.elems[0] = e at he
    obtain ⟨b, o, a3, c3, rfl, hpb, hc, hte⟩ := ht.next he
    have hc' : Cells w3 b (o + 0 * 8) (tyc e a3 c3) := hc.ext x3
    (repeat ((fail_if_success guard_target =~ gW (.seq (.region 4 _ _) _)); (fail_if_success guard_target =~ gW (.seq (.seq (.region 4 _ _) _) _)); refine zs1 ?_))
    refine WU.yld rfl rfl rfl (yld_load_cells rfl hc') ?_
    refine WU.stp0 rfl rfl (stp_store_whole rfl rfl rfl rfl) ?_
    rintro _ w4 u4
    (repeat ((fail_if_success guard_target =~ gW (.seq (.region 4 _ _) _)); (fail_if_success guard_target =~ gW (.seq (.seq (.region 4 _ _) _) _)); refine zs1 ?_))
    exact W.useA (main _ e a3 c3 (u4.ext x3 (by omega)) (u4.keep i1 (by omega)) u4.has (hG.el he) hte (.inl ⟨hk, he⟩)) rfl ⟨rfl, rfl, rfl, rfl, trivial⟩
end Go.Proofs.YtpiegpegjbmlkaaGreatDoor
namespace Go.Proofs.YtpiegpegjbmlkaaGreatDoor
open Go Go.Kd
set_option maxRecDepth 100000

def zT : Ty := .mk 0 0 0 false [] eB eB false
theorem zT_exp (D : List De) : Exp D zT (.leaf 0 0) := exp_leaf (t := zT) (isAl_lit (by decide)) (.inl rfl)
theorem zT_good (D : List De) : Good D zT := by
  refine ⟨⟨0, false, Nat.zero_le _, .mk _ _ ⟨by decide, by decide, by decide, fun _ => by decide, fun _ => by simp [limitN, zT, Ty.kind, Ty.n], fun h => by simp [zT, Ty.kind] at h, fun h => by simp [zT, Ty.kind] at h, fun h => by simp [zT, Ty.kind] at h, fun h => by simp [zT, Ty.kind] at h, fun h => by simp [zT, Ty.kind] at h⟩ fun j e he => by simp [zT, Ty.elems] at he⟩, by decide⟩

theorem iface_im {D : List De} (hD : OkD D) {t : Ty} (hG : Good D t) (h9 : t.kind = 9) : ∃ ms, IM D t ms := by
  obtain ⟨i, v, hi, hs⟩ := hG.sh
  obtain ⟨ms, h, _⟩ := (exists_exp hD.sh i hi v t hs).2 (.inr (by omega))
  exact ⟨ms, h⟩
theorem emb_im {D : List De} (hD : OkD D) {t : Ty} (hG : Good D t) (h9 : t.kind = 9) {j : Nat} {e : Ty} (he : t.elems[j]? = some e) (hj : ¬ (j : Int) < t.count) : ∃ ms, IM D e ms := by
  obtain ⟨i, v, hi, hs⟩ := hG.sh
  have h := hs.el j e he
  rw [show holdsT t j v = true by simp [holdsT, h9]; omega] at h
  obtain ⟨ms, h, _⟩ := (exists_exp hD.sh i hi true e h).2 (.inl rfl)
  exact ⟨ms, h⟩

set_option maxHeartbeats 4000000 in
theorem c_consistent {D : List De} (hD : OkD D) {t : Ty} (hG : Good D t) (h9 : t.kind = 9) (a : Option Addr) (cp : Nat) (a1 : Option Addr) (c1 : Nat) (w : World) {p : Nat → Prop} (hp : ∀ b, p b → b < w.heap.size) (hd : DsV w p (.slice a D.length cp) D) (ht : TysV w p a1 c1 t.elems) :
    Calls Tryz.prog 66 #[.slice a D.length cp, .agg (tyc t a1 c1).toArray] w (Ret fun r w' => ∃ b, r = .bool b ∧ (b = true → ∃ all, Cons D t all) ∧ Ext w w') := by
  obtain ⟨all, hI⟩ := iface_im hD hG h9
  have hla := IM_len' hD hG hI
  have hga := IM_good hD hI hG
  obtain ⟨gi, gv, _, gs⟩ := hG.sh
  have hc0 := gs.shape.c0 (.inr h9)
  have hc1 := gs.shape.c1 (.inr h9)
  clear gs
  have hln := wt_len t
  have hwt := hG.wt
  obtain ⟨c, hc⟩ : ∃ c : Nat, t.count = (c : Int) := ⟨t.count.toNat, by omega⟩
  have hcn : t.count.toNat = c := by omega
  refine W.enter (args := [.slice a D.length cp, .agg (tyc t a1 c1).toArray]) Tryz.func66 rfl Tryz.ntmps66 rfl rfl ?_
  refine zst ?_
  refine WU.stp rfl rfl rfl (by first | exact stp_box rfl rfl | exact stp_box1 rfl rfl) ?_
  rintro _ w1 ⟨b1, rfl, n1⟩
  have e1 := n1.num
  have s1 := n1.size
  refine zst ?_
  refine WU.stp rfl rfl rfl (stp_call rfl (c_InterfaceMethods hD a cp hI hG a1 c1 w1 p (fun b hb => by have := hp b hb; omega) (hd.ext n1.ext) (ht.ext n1.ext))) ?_
  rintro v2 w2 ⟨hm2, x2⟩
  have x02 : Ext w w2 := n1.ext.trans x2
  have s2 := x2.size
  have i2 : Has w2 b1 _ := n1.has.ext' x2
  clear n1
  have hcap := ht.cap
  have htl := ht.past c
  refine zst ?_
  rw [hcn]
  have hdl : t.elems.length - c = (t.elems.drop c).length := by rw [List.length_drop]
  rw [hdl]
  obtain ⟨a2, ha2⟩ : ∃ a2, past a1 c c1 8 = a2 := ⟨_, rfl⟩
  rw [ha2] at htl ⊢
  have hel : ∀ (i : Nat) e, (t.elems.drop c)[i]? = some e → t.elems[c + i]? = some e := fun i e he => by rw [← List.getElem?_drop]; exact he
  generalize hL : t.elems.drop c = L at htl hdl hel
  refine W.loop (σ := Nat) (fun k => [(21, .int .i64 k), (20, .int .i64 L.length), (19, .slice a2 L.length (c1 - c)), (5, v2), (4, .bool false), (0, .slice a D.length cp)])
    (fun k D' wk => D' = [] ∧ k ≤ L.length ∧ Ext w2 wk ∧ ∀ (j : Nat) e, j < k → L[j]? = some e → (underT D e).kind = 9 ∧ ∃ ms, IM D e ms ∧ ∀ m ∈ ms, ∀ n, findM all m.name.toList m.pkg = some n → ∃ x y, Exp D m.fn x ∧ Exp D n.fn y ∧ idX true x y = true)
    (fun k => L.length - k) 0 ⟨rfl, Nat.zero_le _, Ext.rfl' _, fun j e h => by omega⟩ (by exact sub_of ⟨rfl, rfl, rfl, rfl, rfl, rfl, trivial⟩) ?_
  rintro k D' wr ⟨rfl, hk, xr, hall⟩
  have hsz := xr.size
  refine zst ?_
  by_cases hlt : k < L.length
  · rw [show decide ((k : Int) < (L.length : Int)) = true by simpa using hlt]
    have he := List.getElem?_eq_getElem hlt
    generalize L[k] = e at he
    have het := hel k e he
    have hGe := hG.el het
    obtain ⟨ms, hIe⟩ := emb_im hD hG h9 het (by omega)
    have hle := IM_len' hD hGe hIe
    have hge := IM_good hD hIe hGe
    obtain ⟨b, o, a3, c3, rfl, hpb, hc', hte⟩ := htl.next he
    have hc2 : Cells wr b (o + k * 8) (tyc e a3 c3) := hc'.ext (x02.trans xr)
    refine zst ?_
    refine WU.yld rfl rfl rfl (yld_load_cells rfl hc2) ?_
    refine WU.stp rfl rfl rfl stp_alloc ?_
    rintro _ w3 ⟨b3, rfl, n3⟩
    refine WU.stp0 rfl rfl (stp_store_whole rfl rfl rfl rfl) ?_
    rintro _ w4 u4
    have x4 : Ext wr w4 := (u4.ofNew n3).ext
    have i4 : Has w4 b3 _ := u4.has
    have s4 := x4.size
    clear u4 n3
    refine zst ?_
    have xx := x02.trans (xr.trans x4)
    refine WU.stp rfl rfl rfl (stp_call rfl (c_IsInterface hD hGe a cp a3 c3 w4 (fun b hb => by have := hp b hb; omega) (hd.ext xx) (hte.ext xx))) ?_
    rintro _ w5 ⟨rfl, x5⟩
    have i5 : Has w5 b3 _ := i4.ext' x5
    have s5 := x5.size
    cases hif : isIfaceT D e
    · refine zst ?_
      exact fin1 (.inl rfl) rfl rfl ⟨false, rfl, fun h => Bool.noConfusion h, xx.trans x5⟩
    · refine zst ?_
      refine WU.stp rfl rfl rfl (stp_call rfl (c_InterfaceMethods hD a cp hIe hGe a3 c3 w5 p (fun b hb => by have := hp b hb; omega) (hd.ext (xx.trans x5)) (hte.ext (xx.trans x5)))) ?_
      rintro v6 w6 ⟨hm6, x6⟩
      obtain ⟨a6, c6, rfl⟩ := hm6.shape
      have s6 := x6.size
      refine zst ?_
      refine W.loop (σ := Nat) (fun m => [(33, .int .i64 m), (32, .int .i64 ms.length), (31, .slice a6 ms.length c6), (21, .int .i64 k), (20, .int .i64 L.length), (19, .slice (some ⟨b, o, none⟩) L.length (c1 - c)), (5, v2), (4, .bool false), (0, .slice a D.length cp)])
        (fun j D' wk => D' = [] ∧ j ≤ ms.length ∧ Ext w6 wk ∧ ∀ (i : Nat) m, i < j → ms[i]? = some m → ∀ n, findM all m.name.toList m.pkg = some n → ∃ x y, Exp D m.fn x ∧ Exp D n.fn y ∧ idX true x y = true)
        (fun j => ms.length - j) 0 ⟨rfl, Nat.zero_le _, Ext.rfl' _, fun j e h => by omega⟩ (by exact sub_of ⟨rfl, rfl, rfl, rfl, rfl, rfl, rfl, rfl, rfl, trivial⟩) ?_
      rintro j D' wj ⟨rfl, hj, xj, hall2⟩
      have sj := xj.size
      have x6j := xx.trans (x5.trans (x6.trans xj))
      refine zst ?_
      by_cases hjt : j < ms.length
      · rw [show decide ((j : Int) < (ms.length : Int)) = true by simpa using hjt]
        have hm := List.getElem?_eq_getElem hjt
        generalize ms[j] = m at hm
        have hGm := hge m (List.mem_of_getElem? hm)
        obtain ⟨x, hX⟩ := hGm.exp hD
        obtain ⟨b7, o7, a7, c7, rfl, hq7, hc7, ht7⟩ := hm6.next hm
        have hc8 : Cells wj b7 (o7 + j * 10) (mtl m a7 c7) := hc7.ext xj
        refine zst ?_
        refine WU.yld rfl rfl rfl (yld_load_cells rfl hc8) ?_
        refine WU.stp rfl rfl rfl stp_alloc ?_
        rintro _ w7 ⟨b8, rfl, n7⟩
        refine WU.stp0 rfl rfl (stp_store_whole rfl rfl rfl rfl) ?_
        rintro _ w8 u8
        have x8 : Ext wj w8 := (u8.ofNew n7).ext
        have i8 : Has w8 b8 _ := u8.has
        have s8 := x8.size
        clear u8 n7
        refine zst ?_
        have hmw : MtsV w8 (btw w1 w2 p) v2 all := hm2.ext (xr.trans (x4.trans (x5.trans (x6.trans (xj.trans x8)))))
        refine WU.stp rfl rfl rfl (stp_call rfl (c_find m.name m.pkg w8 hmw hla)) ?_
        rintro r9 w9 ⟨hf9, x9⟩
        have i9 : Has w9 b8 _ := i8.ext' x9
        have s9 := x9.size
        have fin' : ∀ (n : Mt) (an : Option Addr) (cn : Nat) (y : X) (w11 : World) (b11 : Nat), Exp D n.fn y → Good D n.fn → TysV w9 (btw w1 w2 p) an cn n.fn.elems → Ext w9 w11 → Has w11 b8 (.cells (mtl m a7 c7).toArray 148) → Has w11 b11 (.cells (mtl n an cn).toArray 148) →
            Calls Tryz.prog 96 #[.slice a D.length cp, .agg (tyc m.fn a7 c7).toArray, .agg (tyc n.fn an cn).toArray, .bool true] w11 (Ret fun r w' => r = .bool (idX true x y) ∧ Ext w11 w') := by
          intro n an cn y w11 b11 hY hGn htn x11 h1 h2
          have s11 := x11.size
          refine c_Identical hD a cp true hX hGm n.fn y hY hGn a7 c7 an cn w11 (fun b => p b ∨ (w1.heap.size ≤ b ∧ b < w9.heap.size)) (fun b hb => by
            rcases hb with hb | hb
            · have := hp b hb; omega
            · omega) (((hd.ext (x6j.trans (x8.trans (x9.trans x11))))).mono fun b hb => .inl hb) ((ht7.ext (xj.trans (x8.trans (x9.trans x11)))).mono fun b hb => ?_) ((htn.ext x11).mono fun b hb => ?_)
          · rcases hb with hb | hb
            · exact .inl hb
            · exact .inr (by omega)
          · rcases hb with hb | hb
            · exact .inl hb
            · exact .inr (by omega)
        cases hfd : findM all m.name.toList m.pkg with
        | none =>
          rw [hfd] at hf9
          obtain rfl : r9 = .tuple #[.agg mtz.toArray, .bool false] := hf9
          refine zst ?_
          refine WU.stp rfl rfl rfl stp_alloc ?_
          rintro _ w10 ⟨b10, rfl, n10⟩
          refine WU.stp0 rfl rfl (stp_store_whole rfl rfl rfl rfl) ?_
          rintro _ w11 u11
          have x11 : Ext w9 w11 := (u11.ofNew n10).ext
          have i11 : Has w11 b8 _ := i9.ext' x11
          have i12 : Has w11 b10 _ := u11.has
          clear u11 n10
          refine zst ?_
          refine WU.yld rfl rfl rfl (yld_load_cells rfl (Cells.mt_ty (Cells.has i11))) ?_
          refine zst ?_
          refine WU.yld rfl rfl rfl (yld_load_cells (l := tyc zT none 0) rfl (Cells.mt_ty (m := ⟨eB, 0, zT⟩) (Cells.has i12))) ?_
          refine zst ?_
          refine WU.stp rfl rfl rfl (stp_call rfl (fin' ⟨eB, 0, zT⟩ none 0 _ w11 b10 (zT_exp D) (zT_good D) TysV.nil x11 i11 i12)) ?_
          rintro _ w13 ⟨rfl, x13⟩
          have xz := x6j.trans (x8.trans (x9.trans (x11.trans x13)))
          cases hid : idX true x (.leaf 0 0)
          · refine zst ?_
            exact fin1 (.inl rfl) rfl rfl ⟨false, rfl, fun h => Bool.noConfusion h, xz⟩
          · refine zst ?_
            exact ⟨j + 1, by omega, ⟨rfl, by omega, xj.trans (x8.trans (x9.trans (x11.trans x13))), fun i m' hi hm' n hn => by
              by_cases hij : i = j
              · subst hij; rw [hm] at hm'; cases hm'; rw [hfd] at hn; cases hn
              · exact hall2 i m' (by omega) hm' n hn⟩, sub_of ⟨rfl, rfl, rfl, rfl, rfl, rfl, rfl, rfl, rfl, trivial⟩⟩
        | some n =>
          rw [hfd] at hf9
          obtain ⟨a9, c9, rfl, ht9⟩ := hf9
          have hGn := hga n (List.mem_of_find?_eq_some hfd)
          obtain ⟨y, hY⟩ := hGn.exp hD
          refine zst ?_
          refine WU.stp rfl rfl rfl stp_alloc ?_
          rintro _ w10 ⟨b10, rfl, n10⟩
          refine WU.stp0 rfl rfl (stp_store_whole rfl rfl rfl rfl) ?_
          rintro _ w11 u11
          have x11 : Ext w9 w11 := (u11.ofNew n10).ext
          have i11 : Has w11 b8 _ := i9.ext' x11
          have i12 : Has w11 b10 _ := u11.has
          clear u11 n10
          refine zst ?_
          refine WU.yld rfl rfl rfl (yld_load_cells rfl (Cells.mt_ty (Cells.has i11))) ?_
          refine zst ?_
          refine WU.yld rfl rfl rfl (yld_load_cells rfl (Cells.mt_ty (Cells.has i12))) ?_
          refine zst ?_
          refine WU.stp rfl rfl rfl (stp_call rfl (fin' n a9 c9 y w11 b10 hY hGn ht9 x11 i11 i12)) ?_
          rintro _ w13 ⟨rfl, x13⟩
          have xz := x6j.trans (x8.trans (x9.trans (x11.trans x13)))
          cases hid : idX true x y
          · refine zst ?_
            exact fin1 (.inl rfl) rfl rfl ⟨false, rfl, fun h => Bool.noConfusion h, xz⟩
          · refine zst ?_
            exact ⟨j + 1, by omega, ⟨rfl, by omega, xj.trans (x8.trans (x9.trans (x11.trans x13))), fun i m' hi hm' n' hn => by
              by_cases hij : i = j
              · subst hij; rw [hm] at hm'; cases hm'; rw [hfd] at hn; cases hn; exact ⟨x, y, hX, hY, hid⟩
              · exact hall2 i m' (by omega) hm' n' hn⟩, sub_of ⟨rfl, rfl, rfl, rfl, rfl, rfl, rfl, rfl, rfl, trivial⟩⟩
      · rw [show decide ((j : Int) < (ms.length : Int)) = false by simpa using hjt]
        refine zst ?_
        exact ⟨k + 1, by omega, ⟨rfl, by omega, xr.trans (x4.trans (x5.trans (x6.trans xj))), fun i e' hi he' => by
          by_cases hik : i = k
          · subst hik; rw [he] at he'; cases he'
            exact ⟨by simpa [isIfaceT] using hif, ms, hIe, fun m hm n hn => by
              obtain ⟨q, hq⟩ := List.getElem?_of_mem hm
              exact hall2 q m (by have := (List.getElem?_eq_some_iff.1 hq).1; omega) hq n hn⟩
          · exact hall i e' (by omega) he'⟩, sub_of ⟨rfl, rfl, rfl, rfl, rfl, rfl, trivial⟩⟩
  · rw [show decide ((k : Int) < (L.length : Int)) = false by simpa using hlt]
    refine zst ?_
    have hidx : ∀ (i : Nat) e, t.elems[i]? = some e → ¬ (i : Int) < t.count → i - c < k ∧ L[i - c]? = some e := fun i e he hi => by
      have hlt' := (List.getElem?_eq_some_iff.1 he).1
      refine ⟨by omega, ?_⟩
      rw [← hL, List.getElem?_drop, show c + (i - c) = i from by omega]; exact he
    exact fin1 (.inl rfl) rfl rfl ⟨true, rfl, fun _ => ⟨all, hI, fun i e he hi => (hall _ e (hidx i e he hi).1 (hidx i e he hi).2).1, fun i e he hi => (hall _ e (hidx i e he hi).1 (hidx i e he hi).2).2⟩, x02.trans xr⟩
end Go.Proofs.YtpiegpegjbmlkaaGreatDoor
namespace Go.Proofs.YtpiegpegjbmlkaaGreatDoor
open Go Go.Kd
set_option maxRecDepth 100000

theorem all_false {bs : List Bool} {i : Nat} (h : bs[i]? = some false) : bs.all id = false := by
  cases hh : bs.all id with
  | false => rfl
  | true => have := List.all_eq_true.1 hh false (List.mem_of_getElem? h); simp at this
set_option maxHeartbeats 4000000 in
theorem c_Comparable {D : List De} (hD : OkD D) (a : Option Addr) (cp : Nat) {t : Ty} {r : Bool} (h : Cmp D t r) : Good D t → ∀ (a1 : Option Addr) (c1 : Nat) (w : World) (p : Nat → Prop), (∀ b, p b → b < w.heap.size) → DsV w p (.slice a D.length cp) D → TysV w p a1 c1 t.elems →
    Calls Tryz.prog 61 #[.slice a D.length cp, .agg (tyc t a1 c1).toArray] w (Ret fun v w' => v = .bool r ∧ Ext w w') := by
  induction h with
  | no t hk =>
    intro hG a1 c1 w p hp hd ht
    refine W.enter (args := [.slice a D.length cp, .agg (tyc t a1 c1).toArray]) Tryz.func61 rfl Tryz.ntmps61 rfl rfl ?_
    refine zst ?_
    refine WU.stp rfl rfl rfl (by first | exact stp_box rfl rfl | exact stp_box1 rfl rfl) ?_
    rintro _ w1 ⟨b1, rfl, n1⟩
    refine zst ?_
    have e1 := n1.num
    have s1 := n1.size
    refine WU.stp rfl rfl rfl (stp_call rfl (c_Underlying hD hG a cp a1 c1 w1 (fun b hb => by have := hp b hb; omega) (hd.ext n1.ext) (ht.ext n1.ext))) ?_
    rintro _ w2 ⟨a2, c2, rfl, ht2, x2⟩
    generalize underT D t = u at hk ht2
    have h1 : Has w2 b1 _ := n1.has.ext' x2
    refine WU.stp0 rfl rfl (stp_store_whole rfl rfl rfl rfl) ?_
    rintro _ w3 u3
    have x03 : Ext w w3 := u3.ext (n1.ext.trans x2) (by omega)
    refine zst ?_
    cases k3 : (u.kind == 3)
    · refine zst ?_
      cases k5 : (u.kind == 5)
      · refine zst ?_
        cases k8 : (u.kind == 8)
        · simp at k3 k5 k8; omega
        · refine zst ?_
          exact fin1 (.inl rfl) rfl rfl ⟨rfl, x03⟩
      · refine zst ?_
        exact fin1 (.inl rfl) rfl rfl ⟨rfl, x03⟩
    · refine zst ?_
      exact fin1 (.inl rfl) rfl rfl ⟨rfl, x03⟩
  | yes t hk =>
    intro hG a1 c1 w p hp hd ht
    refine W.enter (args := [.slice a D.length cp, .agg (tyc t a1 c1).toArray]) Tryz.func61 rfl Tryz.ntmps61 rfl rfl ?_
    refine zst ?_
    refine WU.stp rfl rfl rfl (by first | exact stp_box rfl rfl | exact stp_box1 rfl rfl) ?_
    rintro _ w1 ⟨b1, rfl, n1⟩
    refine zst ?_
    have e1 := n1.num
    have s1 := n1.size
    refine WU.stp rfl rfl rfl (stp_call rfl (c_Underlying hD hG a cp a1 c1 w1 (fun b hb => by have := hp b hb; omega) (hd.ext n1.ext) (ht.ext n1.ext))) ?_
    rintro _ w2 ⟨a2, c2, rfl, ht2, x2⟩
    generalize underT D t = u at hk ht2
    have h1 : Has w2 b1 _ := n1.has.ext' x2
    refine WU.stp0 rfl rfl (stp_store_whole rfl rfl rfl rfl) ?_
    rintro _ w3 u3
    have x03 : Ext w w3 := u3.ext (n1.ext.trans x2) (by omega)
    refine zst ?_
    rw [show (u.kind == 3) = false by simp; omega]
    refine zst ?_
    rw [show (u.kind == 5) = false by simp; omega]
    refine zst ?_
    rw [show (u.kind == 8) = false by simp; omega]
    refine zst ?_
    rw [show (u.kind == 4) = false by simp; omega]
    refine zst ?_
    rw [show (u.kind == 7) = false by simp; omega]
    refine zst ?_
    exact fin1 (.inl rfl) rfl rfl ⟨rfl, x03⟩
  | all t bs hk hL hel ih =>
    intro hG a1 c1 w p hp hd ht
    have hGu := hG.under hD
    have hulen := wt_len (underT D t)
    have hwu := hGu.wt
    refine W.enter (args := [.slice a D.length cp, .agg (tyc t a1 c1).toArray]) Tryz.func61 rfl Tryz.ntmps61 rfl rfl ?_
    refine zst ?_
    refine WU.stp rfl rfl rfl (by first | exact stp_box rfl rfl | exact stp_box1 rfl rfl) ?_
    rintro _ w1 ⟨b1, rfl, n1⟩
    refine zst ?_
    have e1 := n1.num
    have s1 := n1.size
    refine WU.stp rfl rfl rfl (stp_call rfl (c_Underlying hD hG a cp a1 c1 w1 (fun b hb => by have := hp b hb; omega) (hd.ext n1.ext) (ht.ext n1.ext))) ?_
    rintro _ w2 ⟨a2, c2, rfl, ht2, x2⟩
    generalize underT D t = u at *
    have h1 : Has w2 b1 _ := n1.has.ext' x2
    have s2 := x2.size
    refine WU.stp0 rfl rfl (stp_store_whole rfl rfl rfl rfl) ?_
    rintro _ w3 u3
    have s3 := u3.size
    have x03 : Ext w w3 := u3.ext (n1.ext.trans x2) (by omega)
    have ht3 : TysV w3 (btw w1 w2 p) a2 c2 u.elems := ht2.upd u3 (fun h => by
      rcases h with h | h
      · have := hp _ h; omega
      · omega)
    have hpp : ∀ b, btw w1 w2 p b → b < w3.heap.size := fun b hb => by
      rcases hb with hb | hb
      · have := hp b hb; omega
      · omega
    have hd3 : DsV w3 (btw w1 w2 p) (.slice a D.length cp) D := (hd.ext x03).mono fun b hb => .inl hb
    have i3 := u3.has
    clear u3
    refine zst ?_
    rw [show (u.kind == 3) = false by simp; omega]
    refine zst ?_
    rw [show (u.kind == 5) = false by simp; omega]
    refine zst ?_
    rw [show (u.kind == 8) = false by simp; omega]
    refine W.cond_f rfl ?_
    refine W.cut [(16, .bool (u.kind == 4 || u.kind == 7)), (4, .bool false), (3, .pointer (some ⟨b1, 0, none⟩)), (0, .slice a D.length cp)] ?_ ?_
    · refine zst ?_
      cases k4 : (u.kind == 4) <;> (
        refine zst ?_
        exact ⟨rfl, rfl, rfl, rfl, rfl, rfl, trivial⟩)
    rw [show (u.kind == 4 || u.kind == 7) = true by rcases hk with hk | hk <;> simp [hk]]
    refine zst ?_
    refine W.loop (σ := Nat) (fun k => [(22, .int .i64 k), (21, .int .i64 u.elems.length), (20, .slice a2 u.elems.length c2), (4, .bool false), (3, .pointer (some ⟨b1, 0, none⟩)), (0, .slice a D.length cp)])
      (fun k D' wk => D' = [] ∧ k ≤ u.elems.length ∧ Ext w3 wk ∧ ∀ (j : Nat) b, j < k → bs[j]? = some b → b = true)
      (fun k => u.elems.length - k) 0 ⟨rfl, Nat.zero_le _, Ext.rfl' _, fun j b h => by omega⟩ (by exact sub_of ⟨rfl, rfl, rfl, rfl, rfl, rfl, trivial⟩) ?_
    rintro k D' wr ⟨rfl, hkl, xr, hall⟩
    have hsz := xr.size
    refine zst ?_
    by_cases hlt : k < u.elems.length
    · rw [show decide ((k : Int) < (u.elems.length : Int)) = true by simpa using hlt]
      have he := List.getElem?_eq_getElem hlt
      have hb := List.getElem?_eq_getElem (show k < bs.length by omega)
      generalize u.elems[k] = e at he
      generalize bs[k] = bb at hb
      obtain ⟨b, o, a3, c3, rfl, hpb, hc, hte⟩ := ht3.next he
      have hc' : Cells wr b (o + k * 8) (tyc e a3 c3) := hc.ext xr
      refine zst ?_
      refine WU.yld rfl rfl rfl (yld_load_cells rfl hc') ?_
      refine WU.stp rfl rfl rfl stp_alloc ?_
      rintro _ w4 ⟨b3, rfl, n3⟩
      refine WU.stp0 rfl rfl (stp_store_whole rfl rfl rfl rfl) ?_
      rintro _ w5 u4
      have x4 : Ext wr w5 := (u4.ofNew n3).ext
      have s5 := x4.size
      have i4 : Has w5 b3 _ := u4.has
      clear u4 n3
      refine zst ?_
      have xx := xr.trans x4
      refine WU.stp rfl rfl rfl (stp_call rfl (ih k e bb he hb (hGu.el he) a3 c3 w5 (btw w1 w2 p) (fun b hb => by have := hpp b hb; omega) (hd3.ext xx) (hte.ext xx))) ?_
      rintro _ w6 ⟨rfl, x6⟩
      cases bb
      · refine zst ?_
        exact fin1 (.inl rfl) rfl rfl ⟨by rw [all_false hb], x03.trans (xx.trans x6)⟩
      · refine zst ?_
        exact ⟨k + 1, by omega, ⟨rfl, by omega, xx.trans x6, fun j b' hj hb' => by
          by_cases hjk : j = k
          · subst hjk; rw [hb] at hb'; cases hb'; rfl
          · exact hall j b' (by omega) hb'⟩, sub_of ⟨rfl, rfl, rfl, rfl, rfl, rfl, trivial⟩⟩
    · rw [show decide ((k : Int) < (u.elems.length : Int)) = false by simpa using hlt]
      refine zst ?_
      refine fin1 (.inl rfl) rfl rfl ⟨congrArg Value.bool (Eq.symm ?_), x03.trans xr⟩
      rw [List.all_eq_true]
      intro b hb
      obtain ⟨j, hj⟩ := List.getElem?_of_mem hb
      exact hall j b (by have := (List.getElem?_eq_some_iff.1 hj).1; omega) hj
end Go.Proofs.YtpiegpegjbmlkaaGreatDoor
namespace Go.Proofs.YtpiegpegjbmlkaaGreatDoor
open Go Go.Kd
set_option maxRecDepth 100000

theorem Good.nm {D : List De} {t : Ty} (h : Good D t) : t.name.size ≤ 16777216 := by have := h.wt; rw [wt_eq] at this; omega
theorem names_sz {D : List De} {l : List Ty} (h : ∀ e ∈ l, Good D e) : ∀ s ∈ tnames l, s.size ≤ 9223372036854775807 := fun s hs => by
  obtain ⟨e, he, rfl⟩ := List.mem_map.1 hs
  have := (h e he).nm
  omega
theorem tn_len (l : List Ty) : (tnames l).length = l.length := by simp [tnames]

set_option maxHeartbeats 8000000 in
theorem c_legal {D : List De} (hD : OkD D) (a : Option Addr) (cp : Nat) : ∀ (t : Ty), Good D t → ∀ (a1 : Option Addr) (c1 : Nat) (w : World) (p : Nat → Prop), (∀ b, p b → b < w.heap.size) → DsV w p (.slice a D.length cp) D → TysV w p a1 c1 t.elems →
    Calls Tryz.prog 41 #[.slice a D.length cp, .agg (tyc t a1 c1).toArray] w (Ret fun r w' => ∃ b, r = .bool b ∧ (b = true → Legal D t) ∧ Ext w w') := by
  refine Ty.ind fun t ih hG a1 c1 w p hp hd ht => ?_
  have hln := wt_len t
  have hwt := hG.wt
  have hall : ∀ e ∈ t.elems, Good D e := fun e he => by
    obtain ⟨i, hi⟩ := List.getElem?_of_mem he
    exact hG.el hi
  obtain ⟨gi, gv, _, gs⟩ := hG.sh
  have hsh := gs.shape
  clear gs
  refine W.enter (args := [.slice a D.length cp, .agg (tyc t a1 c1).toArray]) Tryz.func41 rfl Tryz.ntmps41 rfl rfl ?_
  refine zst ?_
  refine WU.stp rfl rfl rfl (by first | exact stp_box rfl rfl | exact stp_box1 rfl rfl) ?_
  rintro _ w1 ⟨b1, rfl, n1⟩
  have e1 := n1.num
  have s1 := n1.size
  have i1 := n1.has
  have x1 := n1.ext
  clear n1
  refine zst ?_
  refine W.loop (σ := Nat) (fun k => [(16, .int .i64 k), (15, .int .i64 t.elems.length), (14, .slice a1 t.elems.length c1), (4, .bool false), (3, .pointer (some ⟨b1, 0, none⟩)), (0, .slice a D.length cp)])
    (fun k D' wk => D' = [] ∧ k ≤ t.elems.length ∧ Ext w1 wk ∧ ∀ (j : Nat) e, j < k → t.elems[j]? = some e → Legal D e)
    (fun k => t.elems.length - k) 0 ⟨rfl, Nat.zero_le _, Ext.rfl' _, fun j e h => by omega⟩ (by exact sub_of ⟨rfl, rfl, rfl, rfl, rfl, rfl, trivial⟩) ?_
  rintro k D' wr ⟨rfl, hk, xr, hlg⟩
  have sr := xr.size
  have i1r : Has wr b1 _ := i1.ext' xr
  refine zst ?_
  by_cases hlt : k < t.elems.length
  · rw [show decide ((k : Int) < (t.elems.length : Int)) = true by simpa using hlt]
    have he := List.getElem?_eq_getElem hlt
    generalize t.elems[k] = e at he
    obtain ⟨b, o, a3, c3, rfl, hpb, hc, hte⟩ := ht.next he
    have hc' : Cells wr b (o + k * 8) (tyc e a3 c3) := hc.ext (x1.trans xr)
    refine zst ?_
    refine WU.yld rfl rfl rfl (yld_load_cells rfl hc') ?_
    refine WU.stp rfl rfl rfl stp_alloc ?_
    rintro _ w3 ⟨b3, rfl, n3⟩
    refine WU.stp0 rfl rfl (stp_store_whole rfl rfl rfl rfl) ?_
    rintro _ w4 u4
    have x4 : Ext wr w4 := (u4.ofNew n3).ext
    have i4 : Has w4 b3 _ := u4.has
    have s4 := x4.size
    clear u4 n3
    refine zst ?_
    have xx := x1.trans (xr.trans x4)
    refine WU.stp rfl rfl rfl (stp_call rfl (ih k e he (hG.el he) a3 c3 w4 p (fun b hb => by have := hp b hb; omega) (hd.ext xx) (hte.ext xx))) ?_
    rintro _ w5 ⟨bb, rfl, hbb, x5⟩
    cases bb
    · refine zst ?_
      exact fin1 (.inl rfl) rfl rfl ⟨false, rfl, fun h => Bool.noConfusion h, xx.trans x5⟩
    · refine zst ?_
      exact ⟨k + 1, by omega, ⟨rfl, by omega, xr.trans (x4.trans x5), fun j e' hj he' => by
        by_cases hjk : j = k
        · subst hjk; rw [he] at he'; cases he'; exact hbb rfl
        · exact hlg j e' (by omega) he'⟩, sub_of ⟨rfl, rfl, rfl, rfl, rfl, rfl, trivial⟩⟩
  rw [show decide ((k : Int) < (t.elems.length : Int)) = false by simpa using hlt]
  have hel : ∀ (i : Nat) e, t.elems[i]? = some e → Legal D e := fun i e he => hlg i e (by have := (List.getElem?_eq_some_iff.1 he).1; omega) he
  clear hlg ih
  have xw := x1.trans xr
  have hdr : DsV wr p (.slice a D.length cp) D := hd.ext xw
  have htr : TysV wr p a1 c1 t.elems := ht.ext xw
  have hpr : ∀ b, p b → b < wr.heap.size := fun b hb => by have := hp b hb; omega
  refine zst ?_
  cases k5 : (t.kind == 5)
  · refine zst ?_
    cases k7 : (t.kind == 7)
    · refine zst ?_
      cases k8 : (t.kind == 8)
      · refine zst ?_
        cases k9 : (t.kind == 9)
        · refine zst ?_
          simp only [beq_eq_false_iff_ne] at k5 k7 k8 k9
          exact fin1 (.inl rfl) rfl rfl ⟨true, rfl, fun _ => .mk t hel ⟨fun h => absurd h k5, fun h => absurd h k7, fun h => absurd h k7, fun h => absurd h k8, fun h => absurd h k8, fun h => absurd h k9, fun h => absurd h k9, fun h => absurd h k9⟩, xw⟩
        · have h9 : t.kind = 9 := by simpa using k9
          have hc0 := hsh.c0 (.inr h9)
          have hc1 := hsh.c1 (.inr h9)
          obtain ⟨c, hc⟩ : ∃ c : Nat, t.count = (c : Int) := ⟨t.count.toNat, by omega⟩
          have hcn : t.count.toNat = c := by omega
          have hcap := ht.cap
          have htk := htr.take c
          have htl : (t.elems.take c).length = c := by simp; omega
          refine zst ?_
          rw [hcn]
          refine W.loop (σ := Nat) (fun k => [(93, .int .i64 k), (92, .int .i64 c), (91, .slice a1 c c1), (4, .bool false), (3, .pointer (some ⟨b1, 0, none⟩)), (0, .slice a D.length cp)])
            (fun k D' wk => D' = [] ∧ k ≤ c ∧ Ext wr wk ∧ ∀ (j : Nat) e, j < k → t.elems[j]? = some e → e.name.toList ≠ us)
            (fun k => c - k) 0 ⟨rfl, Nat.zero_le _, Ext.rfl' _, fun j e h => by omega⟩ (by exact sub_of ⟨rfl, rfl, rfl, rfl, rfl, rfl, trivial⟩) ?_
          rintro m D' wm ⟨rfl, hm, xm, hus⟩
          have sm := xm.size
          have i1m : Has wm b1 _ := i1r.ext' xm
          refine zst ?_
          by_cases hmt : m < c
          · rw [show decide ((m : Int) < (c : Int)) = true by simpa using hmt]
            have he := List.getElem?_eq_getElem (show m < t.elems.length by omega)
            generalize t.elems[m] = e at he
            obtain ⟨b, o, a3, c3, rfl, hpb, hcc, hte⟩ := htr.next he
            have hc' : Cells wm b (o + m * 8) (tyc e a3 c3) := hcc.ext xm
            refine zst ?_
            refine WU.yld rfl rfl rfl (yld_load_cells rfl hc') ?_
            refine WU.stp rfl rfl rfl stp_alloc ?_
            rintro _ w3 ⟨b3, rfl, n3⟩
            refine WU.stp0 rfl rfl (stp_store_whole rfl rfl rfl rfl) ?_
            rintro _ w4 u4
            have x4 : Ext wm w4 := (u4.ofNew n3).ext
            have i4 : Has w4 b3 _ := u4.has
            clear u4 n3
            refine zst ?_
            rw [us_list]
            cases hn : (e.name.toList == us)
            · refine zst ?_
              exact ⟨m + 1, by omega, ⟨rfl, by omega, xm.trans x4, fun j e' hj he' => by
                by_cases hjk : j = m
                · subst hjk; rw [he] at he'; cases he'; simpa using hn
                · exact hus j e' (by omega) he'⟩, sub_of ⟨rfl, rfl, rfl, rfl, rfl, rfl, trivial⟩⟩
            · refine zst ?_
              exact fin1 (.inl rfl) rfl rfl ⟨false, rfl, fun h => Bool.noConfusion h, xw.trans (xm.trans x4)⟩
          · rw [show decide ((m : Int) < (c : Int)) = false by simpa using hmt]
            refine zst ?_
            rw [hcn, show Value.slice a1 c c1 = .slice a1 (t.elems.take c).length c1 from by rw [htl]]
            refine WU.stp rfl rfl rfl (stp_call rfl (c_namesOf (t.elems.take c) a1 c1 wm p (htk.ext xm) (by omega))) ?_
            rintro v2 w2 ⟨hv2, _, x2⟩
            have i1q : Has w2 b1 _ := i1m.ext' x2
            refine WU.stp rfl rfl rfl (stp_call rfl (c_unique (tnames (t.elems.take c)) v2 w2 _ hv2 (by rw [tn_len]; omega) (names_sz fun e he => hall e (List.mem_of_mem_take he)))) ?_
            rintro _ w3 ⟨bu, rfl, hbu, rfl⟩
            cases bu
            · refine zst ?_
              exact fin1 (.inl rfl) rfl rfl ⟨false, rfl, fun h => Bool.noConfusion h, xw.trans (xm.trans x2)⟩
            · refine zst ?_
              have s2 := x2.size
              refine WU.stp rfl rfl rfl (stp_call rfl (c_consistent hD hG h9 a cp a1 c1 w2 (fun b hb => by have := hpr b hb; omega) (hdr.ext (xm.trans x2)) (htr.ext (xm.trans x2)))) ?_
              rintro _ w3 ⟨bc, rfl, hbc, x3⟩
              refine zst ?_
              refine fin1 (.inl rfl) rfl rfl ⟨bc, rfl, fun h => .mk t hel ⟨fun h => by omega, fun h => by omega, fun h => by omega, fun h => by omega, fun h => by omega, fun _ i e he hi => hus i e (by omega) he, fun _ => ?_, fun _ => hbc h⟩, xw.trans (xm.trans (x2.trans x3))⟩
              rw [hcn]; have := hbu rfl; rwa [tnames_list] at this
      · have h8 : t.kind = 8 := by simpa using k8
        have hc0 := hsh.c0 (.inl h8)
        have hc1 := hsh.c1 (.inl h8)
        obtain ⟨c, hc⟩ : ∃ c : Nat, t.count = (c : Int) := ⟨t.count.toNat, by omega⟩
        have hcn : t.count.toNat = c := by omega
        have hcap := ht.cap
        have htk := htr.take c
        have htl : (t.elems.take c).length = c := by simp; omega
        have htd := htr.past c
        have hdl : t.elems.length - c = (t.elems.drop c).length := by rw [List.length_drop]
        refine zst ?_
        refine W.regD [(0, .q), (1, .q), (2, .q), (3, .q), (4, .q), (5, .q), (6, .q), (7, .q), (8, .q), (9, .q), (10, .q), (11, .q)] (by kernel_rfl) (by kernel_rfl) rfl ?_
        intro w2 x2 _
        have j1 : Has w2 b1 _ := i1r.ext' x2
        refine zsd ?_
        refine zst ?_
        rw [hcn, show Value.slice a1 c c1 = .slice a1 (t.elems.take c).length c1 from by rw [htl], hdl]
        obtain ⟨a2, ha2⟩ : ∃ a2, past a1 c c1 8 = a2 := ⟨_, rfl⟩
        rw [ha2] at htd ⊢
        refine WU.stp rfl rfl rfl (stp_call rfl (c_unnamed (t.elems.take c) a1 c1 w2 p (htk.ext x2) (by omega))) ?_
        rintro _ w3 ⟨q1, rfl, hq1, x3⟩
        have lg : (unnamedT (t.elems.take c) ∨ Uniq (names (t.elems.take c))) → (unnamedT (t.elems.drop c) ∨ Uniq (names (t.elems.drop c))) → Legal D t := fun g1 g2 => .mk t hel ⟨fun h => by omega, fun h => by omega, fun h => by omega, fun _ => by rw [hcn]; exact g1, fun _ => by rw [hcn]; exact g2, fun h => by omega, fun h => by omega, fun h => by omega⟩
        cases q1
        · refine zst ?_
          refine WU.stp rfl rfl rfl (stp_call rfl (c_namesOf (t.elems.take c) a1 c1 w3 p (htk.ext (x2.trans x3)) (by omega))) ?_
          rintro v4 w4 ⟨hv4, _, x4⟩
          refine WU.stp rfl rfl rfl (stp_call rfl (c_unique (tnames (t.elems.take c)) v4 w4 _ hv4 (by rw [tn_len]; omega) (names_sz fun e he => hall e (List.mem_of_mem_take he)))) ?_
          rintro _ w5 ⟨bu, rfl, hbu, rfl⟩
          cases bu
          · refine zst ?_
            exact fin1 (.inl rfl) rfl rfl ⟨false, rfl, fun h => Bool.noConfusion h, xw.trans (x2.trans (x3.trans x4))⟩
          · refine zst ?_
            refine WU.stp rfl rfl rfl (stp_call rfl (c_unnamed (t.elems.drop c) a2 (c1 - c) w4 p (htd.ext (x2.trans (x3.trans x4))) (by omega))) ?_
            rintro _ w6 ⟨q2, rfl, hq2, x6⟩
            cases q2
            · refine zst ?_
              refine WU.stp rfl rfl rfl (stp_call rfl (c_namesOf (t.elems.drop c) a2 (c1 - c) w6 p (htd.ext (Ext.trans (x2.trans (x3.trans x4)) x6)) (by omega))) ?_
              rintro v7 w7 ⟨hv7, _, x7⟩
              refine WU.stp rfl rfl rfl (stp_call rfl (c_unique (tnames (t.elems.drop c)) v7 w7 _ hv7 (by rw [tn_len]; omega) (names_sz fun e he => hall e (List.mem_of_mem_drop he)))) ?_
              rintro _ w8 ⟨bv, rfl, hbv, rfl⟩
              refine zst ?_
              exact fin1 (.inl rfl) rfl rfl ⟨bv, rfl, fun h => lg (.inr (by have := hbu rfl; rwa [tnames_list] at this)) (.inr (by have := hbv h; rwa [tnames_list] at this)), xw.trans (Ext.trans (x2.trans (x3.trans x4)) (x6.trans x7))⟩
            · refine zst ?_
              exact fin1 (.inl rfl) rfl rfl ⟨true, rfl, fun _ => lg (.inr (by have := hbu rfl; rwa [tnames_list] at this)) (.inl (hq2 rfl)), xw.trans (Ext.trans (x2.trans (x3.trans x4)) x6)⟩
        · refine zst ?_
          refine WU.stp rfl rfl rfl (stp_call rfl (c_unnamed (t.elems.drop c) a2 (c1 - c) w3 p (htd.ext (x2.trans x3)) (by omega))) ?_
          rintro _ w6 ⟨q2, rfl, hq2, x6⟩
          cases q2
          · refine zst ?_
            refine WU.stp rfl rfl rfl (stp_call rfl (c_namesOf (t.elems.drop c) a2 (c1 - c) w6 p (htd.ext (Ext.trans (x2.trans x3) x6)) (by omega))) ?_
            rintro v7 w7 ⟨hv7, _, x7⟩
            refine WU.stp rfl rfl rfl (stp_call rfl (c_unique (tnames (t.elems.drop c)) v7 w7 _ hv7 (by rw [tn_len]; omega) (names_sz fun e he => hall e (List.mem_of_mem_drop he)))) ?_
            rintro _ w8 ⟨bv, rfl, hbv, rfl⟩
            refine zst ?_
            exact fin1 (.inl rfl) rfl rfl ⟨bv, rfl, fun h => lg (.inl (hq1 rfl)) (.inr (by have := hbv h; rwa [tnames_list] at this)), xw.trans (Ext.trans (x2.trans x3) (x6.trans x7))⟩
          · refine zst ?_
            exact fin1 (.inl rfl) rfl rfl ⟨true, rfl, fun _ => lg (.inl (hq1 rfl)) (.inl (hq2 rfl)), xw.trans (Ext.trans (x2.trans x3) x6)⟩
    · have h7 : t.kind = 7 := by simpa using k7
      refine zst ?_
      refine W.loop (σ := Nat) (fun k => [(40, .int .i64 k), (39, .int .i64 t.elems.length), (38, .slice a1 t.elems.length c1), (4, .bool false), (3, .pointer (some ⟨b1, 0, none⟩)), (0, .slice a D.length cp)])
        (fun k D' wk => D' = [] ∧ k ≤ t.elems.length ∧ Ext wr wk ∧ ∀ (j : Nat) e, j < k → t.elems[j]? = some e → e.emb = true → ∃ b, MayEmb D e b)
        (fun k => t.elems.length - k) 0 ⟨rfl, Nat.zero_le _, Ext.rfl' _, fun j e h => by omega⟩ (by exact sub_of ⟨rfl, rfl, rfl, rfl, rfl, rfl, trivial⟩) ?_
      rintro m D' wm ⟨rfl, hm, xm, hus⟩
      have sm := xm.size
      have i1m : Has wm b1 _ := i1r.ext' xm
      refine zst ?_
      by_cases hmt : m < t.elems.length
      · rw [show decide ((m : Int) < (t.elems.length : Int)) = true by simpa using hmt]
        have he := List.getElem?_eq_getElem hmt
        generalize t.elems[m] = e at he
        obtain ⟨b, o, a3, c3, rfl, hpb, hcc, hte⟩ := htr.next he
        have hc' : Cells wm b (o + m * 8) (tyc e a3 c3) := hcc.ext xm
        refine zst ?_
        refine WU.yld rfl rfl rfl (yld_load_cells rfl hc') ?_
        refine WU.stp rfl rfl rfl stp_alloc ?_
        rintro _ w3 ⟨b3, rfl, n3⟩
        refine WU.stp0 rfl rfl (stp_store_whole rfl rfl rfl rfl) ?_
        rintro _ w4 u4
        have x4 : Ext wm w4 := (u4.ofNew n3).ext
        have i4 : Has w4 b3 _ := u4.has
        have s4 := x4.size
        clear u4 n3
        refine zst ?_
        cases hemb : e.emb
        · refine zst ?_
          exact ⟨m + 1, by omega, ⟨rfl, by omega, xm.trans x4, fun j e' hj he' h => by
            by_cases hjk : j = m
            · subst hjk; rw [he] at he'; cases he'; rw [hemb] at h; cases h
            · exact hus j e' (by omega) he' h⟩, sub_of ⟨rfl, rfl, rfl, rfl, rfl, rfl, trivial⟩⟩
        · refine zst ?_
          refine WU.stp rfl rfl rfl (stp_call rfl (c_mayEmbed hD (hG.el he) _ cp a3 c3 w4 (fun b hb => by have := hpr b hb; omega) (hdr.ext (xm.trans x4)) (hte.ext (xm.trans x4)))) ?_
          rintro _ w5 ⟨bm, rfl, hbm, x5⟩
          cases bm
          · refine zst ?_
            exact fin1 (.inl rfl) rfl rfl ⟨false, rfl, fun h => Bool.noConfusion h, xw.trans (xm.trans (x4.trans x5))⟩
          · refine zst ?_
            exact ⟨m + 1, by omega, ⟨rfl, by omega, xm.trans (x4.trans x5), fun j e' hj he' h => by
              by_cases hjk : j = m
              · subst hjk; rw [he] at he'; cases he'; exact hbm rfl
              · exact hus j e' (by omega) he' h⟩, sub_of ⟨rfl, rfl, rfl, rfl, rfl, rfl, trivial⟩⟩
      · rw [show decide ((m : Int) < (t.elems.length : Int)) = false by simpa using hmt]
        refine zst ?_
        refine WU.stp rfl rfl rfl (stp_call rfl (c_namesOf t.elems a1 c1 wm p (htr.ext xm) (by omega))) ?_
        rintro v2 w2 ⟨hv2, _, x2⟩
        refine WU.stp rfl rfl rfl (stp_call rfl (c_unique (tnames t.elems) v2 w2 _ hv2 (by rw [tn_len]; omega) (names_sz hall))) ?_
        rintro _ w3 ⟨bu, rfl, hbu, rfl⟩
        refine zst ?_
        refine fin1 (.inl rfl) rfl rfl ⟨bu, rfl, fun h => .mk t hel ⟨fun h => by omega, fun _ i e he hi => hus i e (by have := (List.getElem?_eq_some_iff.1 he).1; omega) he hi, fun _ => ?_, fun h => by omega, fun h => by omega, fun h => by omega, fun h => by omega, fun h => by omega⟩, xw.trans (xm.trans x2)⟩
        have := hbu h; rwa [tnames_list] at this
  · have h5 : t.kind = 5 := by simpa using k5
    have hl2 := hsh.len (by rw [h5]; decide)
    rw [h5] at hl2
    simp [elemsN] at hl2
    have he := List.getElem?_eq_getElem (show 0 < t.elems.length by omega)
    generalize t.elems[0] = e at he
    obtain ⟨b, o, a3, c3, rfl, hpb, hcc, hte⟩ := htr.next he
    have hc' : Cells wr b (o + 0 * 8) (tyc e a3 c3) := hcc
    obtain ⟨r, hr⟩ := good_cmp hD (hG.el he)
    refine zst ?_
    refine WU.yld rfl rfl rfl (yld_load_cells rfl hc') ?_
    refine WU.stp rfl rfl rfl (stp_call rfl (c_Comparable hD _ cp hr (hG.el he) a3 c3 wr p hpr hdr hte)) ?_
    rintro _ w5 ⟨rfl, x5⟩
    refine zst ?_
    refine fin1 (.inl rfl) rfl rfl ⟨r, rfl, fun h => .mk t hel ⟨fun _ k hk => ?_, fun h => by omega, fun h => by omega, fun h => by omega, fun h => by omega, fun h => by omega, fun h => by omega, fun h => by omega⟩, xw.trans x5⟩
    rw [he] at hk; cases hk; rw [h] at hr; exact hr
end Go.Proofs.YtpiegpegjbmlkaaGreatDoor
namespace Go.Proofs.YtpiegpegjbmlkaaGreatDoor
open Go Go.Kd
set_option maxRecDepth 100000


set_option maxHeartbeats 4000000 in
theorem c_shaped {D : List De} (hDl : D.length ≤ 16777216) (a : Option Addr) (cp : Nat) (p : Nat → Prop) : ∀ (t : Ty), wt t ≤ 16777216 → ∀ (i : Nat) (v : Bool) (a1 : Option Addr) (c1 : Nat) (w : World),
    DsV w p (.slice a D.length cp) D → TysV w p a1 c1 t.elems →
    Calls Tryz.prog 40 #[.slice a D.length cp, .agg (tyc t a1 c1).toArray, .int .i64 i, .bool v] w (Ret fun r w' => ∃ b, r = .bool b ∧ (b = true → Shaped D i v t) ∧ Ext w w') := by
  refine Ty.ind fun t ih hwt i v a1 c1 w hd ht => ?_
  have hlen := wt_len t
  refine W.enter (args := [.slice a D.length cp, .agg (tyc t a1 c1).toArray, .int .i64 i, .bool v]) Tryz.func40 rfl Tryz.ntmps40 rfl rfl ?_
  refine zst ?_
  refine WU.stp rfl rfl rfl (by first | exact stp_box rfl rfl | exact stp_box1 rfl rfl) ?_
  rintro _ w1 ⟨b1, rfl, n1⟩
  refine zst ?_
  have e1 := n1.num
  have s1 := n1.size
  refine W.regD [(0, .q), (1, .q), (3, .q), (4, .q), (5, .q), (2, .l), (6, .l), (7, .q), (8, .q)] (by kernel_rfl) (by kernel_rfl) rfl ?_
  intro w2 x2 _
  refine zsd ?_
  refine WD.stp rfl rfl rfl rfl (stp_call rfl (c_elems t.kind w2)) ?_
  rintro _ _ ⟨rfl, rfl⟩
  refine ⟨by first | assumption | exact Ext.rfl' _ | infer_instance, ?_⟩
  refine WD.stp rfl rfl rfl rfl (stp_call rfl (c_limit D a cp t.kind w2)) ?_
  rintro _ _ ⟨rfl, rfl⟩
  refine ⟨by first | assumption | exact Ext.rfl' _ | infer_instance, ?_⟩
  refine zsd ?_
  have xw : Ext w w2 := n1.ext.trans x2
  have hb : Has w2 b1 _ := n1.has.ext' x2
  obtain ⟨K, hK⟩ : ∃ K, elemsN t.kind = K := ⟨_, rfl⟩
  obtain ⟨L, hL⟩ : ∃ L, limitN D t.kind = L := ⟨_, rfl⟩
  rw [hK, hL]
  have hf : ∀ w', Ext w w' → ∃ b, Value.bool false = .bool b ∧ (b = true → Shaped D i v t) ∧ Ext w w' := fun w' x => ⟨false, rfl, fun h => Bool.noConfusion h, x⟩
  refine W.seq ?_
  refine W.block ?_
  refine W.cut [(21, .bool (decide (t.kind < 0) || (decide (t.kind > 9) || (decide (K ≥ 0) && ((t.elems.length : Int) != K))))), (9, .int .i64 K), (10, .int .i64 L), (8, .bool false), (5, .pointer (some ⟨b1, 0, none⟩)), (3, .bool v), (2, .int .i64 i), (0, .slice a D.length cp)] ?_ ?_
  · refine zst ?_
    cases A1 : decide (t.kind < 0)
    · refine zst ?_
      cases A2 : decide (t.kind > 9)
      · refine zst ?_
        cases A3 : decide (K ≥ 0) <;> (
          refine zst ?_
          exact ⟨rfl, rfl, rfl, rfl, rfl, rfl, rfl, rfl, rfl, rfl, trivial⟩)
      · refine zst ?_
        exact ⟨rfl, rfl, rfl, rfl, rfl, rfl, rfl, rfl, rfl, rfl, trivial⟩
    · refine zst ?_
      exact ⟨rfl, rfl, rfl, rfl, rfl, rfl, rfl, rfl, rfl, rfl, trivial⟩
  cases B1 : (decide (t.kind < 0) || (decide (t.kind > 9) || (decide (K ≥ 0) && ((t.elems.length : Int) != K)))) with
  | true =>
    refine zst ?_
    exact fin1 (.inl rfl) rfl rfl (hf _ xw)
  | false =>
  simp only [Bool.or_eq_false_iff, Bool.and_eq_false_imp, decide_eq_false_iff_not, decide_eq_true_eq, bne_eq_false_iff_eq] at B1
  obtain ⟨B1, B2, B3⟩ := B1
  refine W.cond_f rfl ?_
  refine W.cut [(41, .bool ((decide (L ≥ -1) && decide (t.n < 0)) || (decide (L ≥ 0) && decide (t.n ≥ L)))), (8, .bool false), (5, .pointer (some ⟨b1, 0, none⟩)), (3, .bool v), (2, .int .i64 i), (0, .slice a D.length cp)] ?_ ?_
  · refine zst ?_
    cases A1 : decide (L ≥ -1)
    · refine zst ?_
      cases A2 : decide (L ≥ 0) <;> (
        refine zst ?_
        exact ⟨rfl, rfl, rfl, rfl, rfl, rfl, rfl, rfl, trivial⟩)
    · refine zst ?_
      cases A3 : decide (t.n < 0)
      · refine zst ?_
        cases A2 : decide (L ≥ 0) <;> (
          refine zst ?_
          exact ⟨rfl, rfl, rfl, rfl, rfl, rfl, rfl, rfl, trivial⟩)
      · refine zst ?_
        exact ⟨rfl, rfl, rfl, rfl, rfl, rfl, rfl, rfl, trivial⟩
  cases C1 : ((decide (L ≥ -1) && decide (t.n < 0)) || (decide (L ≥ 0) && decide (t.n ≥ L))) with
  | true =>
    refine zst ?_
    exact fin1 (.inl rfl) rfl rfl (hf _ xw)
  | false =>
  simp only [Bool.or_eq_false_iff, Bool.and_eq_false_imp, decide_eq_false_iff_not, decide_eq_true_eq] at C1
  obtain ⟨C1, C2⟩ := C1
  refine W.cond_f rfl ?_
  refine W.cut [(59, .bool ((t.kind == 1) && ((v || isAl D t) && decide (t.n ≥ (i : Int))))), (8, .bool false), (5, .pointer (some ⟨b1, 0, none⟩)), (3, .bool v), (2, .int .i64 i), (0, .slice a D.length cp)] ?_ ?_
  · refine zst ?_
    cases A1 : (t.kind == 1)
    · refine zst ?_
      exact ⟨rfl, rfl, rfl, rfl, rfl, rfl, rfl, rfl, trivial⟩
    · have hk1 : t.kind = 1 := by simpa using A1
      have hL1 : L = D.length := by rw [← hL, hk1]; rfl
      have hn0 : 0 ≤ t.n := by have := C1 (by omega); omega
      have hn1 : t.n < D.length := by have := C2 (by omega); omega
      cases v
      · have hlt : t.n.toNat < D.length := by omega
        obtain ⟨e, he⟩ : ∃ e, D[t.n.toNat]? = some e := ⟨_, List.getElem?_eq_getElem hlt⟩
        obtain ⟨b, o, a3, c3, a4, c4, f, rfl, _, hc, hte, _⟩ := hd.next he
        have hc' : Cells w2 b (o + t.n.toNat * 12) (del e a3 c3 a4 c4) := hc.ext xw
        have hal : isAl D t = e.al := by unfold isAl decl; rw [if_pos hk1, he]
        rw [hal]
        refine zst ?_
        refine WU.yld rfl rfl rfl (yld_load_cellsI rfl hc' rfl) ?_
        refine zst ?_
        cases e.al <;> (
          refine zst ?_
          exact ⟨rfl, rfl, rfl, rfl, rfl, rfl, rfl, rfl, trivial⟩)
      · refine zst ?_
        exact ⟨rfl, rfl, rfl, rfl, rfl, rfl, rfl, rfl, trivial⟩
  cases D1 : ((t.kind == 1) && ((v || isAl D t) && decide (t.n ≥ (i : Int)))) with
  | true =>
    refine zst ?_
    exact fin1 (.inl rfl) rfl rfl (hf _ xw)
  | false =>
  simp only [Bool.and_eq_false_imp, decide_eq_false_iff_not, beq_iff_eq, Bool.or_eq_true] at D1
  refine W.cond_f rfl ?_
  refine W.cut [(80, .bool (((t.kind == 8) || (t.kind == 9)) && (decide (t.count < 0) || decide (t.count > (t.elems.length : Int))))), (8, .bool false), (5, .pointer (some ⟨b1, 0, none⟩)), (3, .bool v), (2, .int .i64 i), (0, .slice a D.length cp)] ?_ ?_
  · refine zst ?_
    cases A1 : (t.kind == 8)
    · refine zst ?_
      cases A2 : (t.kind == 9)
      · refine zst ?_
        exact ⟨rfl, rfl, rfl, rfl, rfl, rfl, rfl, rfl, trivial⟩
      · refine zst ?_
        cases A3 : decide (t.count < 0) <;> (
          refine zst ?_
          exact ⟨rfl, rfl, rfl, rfl, rfl, rfl, rfl, rfl, trivial⟩)
    · refine zst ?_
      cases A3 : decide (t.count < 0) <;> (
        refine zst ?_
        exact ⟨rfl, rfl, rfl, rfl, rfl, rfl, rfl, rfl, trivial⟩)
  cases E1 : (((t.kind == 8) || (t.kind == 9)) && (decide (t.count < 0) || decide (t.count > (t.elems.length : Int)))) with
  | true =>
    refine zst ?_
    exact fin1 (.inl rfl) rfl rfl (hf _ xw)
  | false =>
  simp only [Bool.and_eq_false_imp, decide_eq_false_iff_not, beq_iff_eq, Bool.or_eq_true, Bool.or_eq_false_iff] at E1
  refine W.cond_f rfl ?_
  obtain ⟨ek, hek⟩ : ∃ ek : Int, ek = match t.elems[(t.count - 1).toNat]? with | some e => e.kind | none => 0 := ⟨_, rfl⟩
  refine W.cut [(102, .bool (((t.kind == 8) && t.vr) && ((t.count == 0) || (ek != 3)))), (8, .bool false), (5, .pointer (some ⟨b1, 0, none⟩)), (3, .bool v), (2, .int .i64 i), (0, .slice a D.length cp)] ?_ ?_
  · refine zst ?_
    cases A1 : (t.kind == 8)
    · refine zst ?_
      exact ⟨rfl, rfl, rfl, rfl, rfl, rfl, rfl, rfl, trivial⟩
    · refine zst ?_
      cases A2 : t.vr
      · refine zst ?_
        exact ⟨rfl, rfl, rfl, rfl, rfl, rfl, rfl, rfl, trivial⟩
      · refine zst ?_
        cases A3 : (t.count == 0)
        · have hk8 : t.kind = 8 := by simpa using A1
          have h0 : t.count ≠ 0 := by simpa using A3
          obtain ⟨g1, g2⟩ := E1 (.inl hk8)
          have hlt : (t.count - 1).toNat < t.elems.length := by omega
          have he := List.getElem?_eq_getElem hlt
          rw [he] at hek
          obtain ⟨b, o, a2, c2, rfl, _, hc, _⟩ := ht.next he
          have hc' : Cells w2 b (o + (t.count - 1).toNat * 8) (tyc t.elems[(t.count - 1).toNat] a2 c2) := hc.ext xw
          refine zst ?_
          refine WU.yld rfl rfl rfl (yld_load_cellsI rfl hc' rfl) ?_
          rw [show t.elems[(t.count - 1).toNat].kind = ek from hek.symm]
          refine zst ?_
          exact ⟨rfl, rfl, rfl, rfl, rfl, rfl, rfl, rfl, trivial⟩
        · refine zst ?_
          exact ⟨rfl, rfl, rfl, rfl, rfl, rfl, rfl, rfl, trivial⟩
  cases F1 : (((t.kind == 8) && t.vr) && ((t.count == 0) || (ek != 3))) with
  | true =>
    refine zst ?_
    exact fin1 (.inl rfl) rfl rfl (hf _ xw)
  | false =>
  simp only [Bool.and_eq_false_imp, beq_iff_eq, Bool.or_eq_false_iff, Bool.and_eq_true, bne_eq_false_iff_eq, beq_eq_false_iff_ne] at F1
  clear hf
  have hne1 : ∀ (hm : t.kind = 9 → ∀ (j : Nat) e, t.elems[j]? = some e → (j : Int) < t.count → e.kind = 8), Shape D i v t := fun hm => by
    refine ⟨by omega, by omega, fun h => by rw [hK] at h ⊢; exact B3 h, fun h => by rw [hL] at h; have := C1 h; omega, fun h => by rw [hL] at h ⊢; have := C2 h; omega, fun h1 h2 => ?_, fun h => ?_, fun h => ?_, fun h8 hv => ?_, hm⟩
    · have := D1 h1 (by rcases h2 with h2 | h2 <;> simp [h2]); omega
    · have := (E1 h).1; omega
    · have := (E1 h).2; omega
    · obtain ⟨h0, h3⟩ := F1 ⟨h8, hv⟩
      obtain ⟨g1, g2⟩ := E1 (.inl h8)
      have hlt : (t.count - 1).toNat < t.elems.length := by omega
      have he := List.getElem?_eq_getElem hlt
      rw [he] at hek
      exact ⟨_, h0, he, hek.symm.trans h3⟩
  refine zst ?_
  have hb1 := hb.lt
  refine W.loop (σ := Nat) (fun j => [(129, .int .i64 j), (128, .int .i64 t.elems.length), (127, .slice a1 t.elems.length c1), (8, .bool false), (5, .pointer (some ⟨b1, 0, none⟩)), (3, .bool v), (2, .int .i64 i), (0, .slice a D.length cp)])
    (fun j D' w' => D' = [] ∧ j ≤ t.elems.length ∧ Ext w w' ∧ Has w' b1 (.cells (tyc t a1 c1).toArray 26) ∧ ∀ (k : Nat) e, k < j → t.elems[k]? = some e → (t.kind = 9 → (k : Int) < t.count → e.kind = 8) ∧ Shaped D i (holdsT t k v) e)
    (fun j => t.elems.length - j) 0 ⟨rfl, Nat.zero_le _, xw, hb, fun k e h => by omega⟩ (by exact sub_of ⟨rfl, rfl, rfl, rfl, rfl, rfl, rfl, rfl, trivial⟩) ?_
  clear hb xw x2 n1 F1 E1 D1 C1 C2 B3 hek hK hL
  rintro j D' wr ⟨rfl, hj, xr, hb, hall⟩
  refine zst ?_
  by_cases hlt : j < t.elems.length
  · rw [show decide ((j : Int) < (t.elems.length : Int)) = true by simpa using hlt]
    have he := List.getElem?_eq_getElem hlt
    generalize t.elems[j] = e at he
    obtain ⟨b, o, a2, c2, rfl, hpb, hc, hte⟩ := ht.next he
    have hc' : Cells wr b (o + j * 8) (tyc e a2 c2) := hc.ext xr
    refine zst ?_
    refine WU.yld rfl rfl rfl (yld_load_cells rfl hc') ?_
    refine WU.stp rfl rfl rfl stp_alloc ?_
    rintro _ w3 ⟨b3, rfl, n3⟩
    refine zst ?_
    refine WU.stp0 rfl rfl (stp_store_whole rfl rfl rfl rfl) ?_
    rintro _ w4 u4
    have e3 := n3.num
    have hr := hb.lt
    have hsz := xr.size
    have x4 : Ext w w4 := xr.trans (u4.ofNew n3).ext
    have hb4 : Has w4 b1 _ := u4.keep (hb.ext' n3.ext) (by omega)
    refine WU.nilk ?_
    refine W.cut [(13, .bool ((t.kind == 9) && decide ((j : Int) < t.count))), (11, .int .i64 j), (12, .pointer (some ⟨b3, 0, none⟩)), (129, .int .i64 j), (128, .int .i64 t.elems.length), (127, .slice (some ⟨b, o, none⟩) t.elems.length c1), (8, .bool false), (5, .pointer (some ⟨b1, 0, none⟩)), (3, .bool v), (2, .int .i64 i), (0, .slice a D.length cp)] ?_ ?_
    · refine zst ?_
      cases A1 : (t.kind == 9) <;> (
        refine zst ?_
        exact ⟨rfl, rfl, rfl, rfl, rfl, rfl, rfl, rfl, rfl, rfl, rfl, rfl, rfl, trivial⟩)
    refine W.seq ?_
    refine W.regD [(0, .q), (1, .q), (2, .q), (3, .q), (4, .q), (5, .q), (6, .q), (7, .q), (8, .q), (9, .q), (10, .q), (11, .q), (12, .q), (13, .l), (14, .l), (15, .q), (16, .q)] (by kernel_rfl) (by kernel_rfl) rfl ?_
    intro w5 x5 _
    have hb5 : Has w5 b1 _ := hb4.ext' x5
    have h35 : Has w5 b3 _ := u4.has.ext' x5
    cases hM : ((t.kind == 9) && decide ((j : Int) < t.count))
    · refine zsd ?_
      refine WD.stp rfl rfl rfl rfl (stp_call rfl (c_holds t _ c1 j v w5)) ?_
      rintro _ w6 ⟨rfl, x6⟩
      refine ⟨by first | assumption | exact Ext.rfl' _ | infer_instance, ?_⟩
      refine WD.stp rfl rfl rfl rfl (stp_call rfl (ih j e he (by have := wt_el he; omega) i (holdsT t j v) a2 c2 w6 (hd.ext (x4.trans (x5.trans x6))) (hte.ext (x4.trans (x5.trans x6))))) ?_
      rintro _ w7 ⟨b', rfl, hb', x7⟩
      refine ⟨by first | assumption | exact Ext.rfl' _ | infer_instance, ?_⟩
      refine zsd ?_
      have xx : Ext w w7 := x4.trans (x5.trans (x6.trans x7))
      cases b'
      · refine zst ?_
        exact fin1 (.inl rfl) rfl rfl ⟨false, rfl, fun h => Bool.noConfusion h, xx⟩
      · refine zst ?_
        exact ⟨j + 1, by omega, ⟨rfl, by omega, xx, ((hb4.ext' x5).ext' x6).ext' x7, fun k e' hk hke => by
          by_cases hkj : k = j
          · subst hkj
            rw [he] at hke
            cases hke
            exact ⟨fun h9 hlt' => by simp [h9] at hM; omega, hb' rfl⟩
          · exact hall k e' (by omega) hke⟩, sub_of ⟨rfl, rfl, rfl, rfl, rfl, rfl, rfl, rfl, trivial⟩⟩
    · refine zsd ?_
      cases A3 : (e.kind != 8)
      · refine zsd ?_
        refine WD.stp rfl rfl rfl rfl (stp_call rfl (c_holds t _ c1 j v w5)) ?_
        rintro _ w6 ⟨rfl, x6⟩
        refine ⟨by first | assumption | exact Ext.rfl' _ | infer_instance, ?_⟩
        refine WD.stp rfl rfl rfl rfl (stp_call rfl (ih j e he (by have := wt_el he; omega) i (holdsT t j v) a2 c2 w6 (hd.ext (x4.trans (x5.trans x6))) (hte.ext (x4.trans (x5.trans x6))))) ?_
        rintro _ w7 ⟨b', rfl, hb', x7⟩
        refine ⟨by first | assumption | exact Ext.rfl' _ | infer_instance, ?_⟩
        refine zsd ?_
        have xx : Ext w w7 := x4.trans (x5.trans (x6.trans x7))
        cases b'
        · refine zst ?_
          exact fin1 (.inl rfl) rfl rfl ⟨false, rfl, fun h => Bool.noConfusion h, xx⟩
        · refine zst ?_
          exact ⟨j + 1, by omega, ⟨rfl, by omega, xx, ((hb4.ext' x5).ext' x6).ext' x7, fun k e' hk hke => by
            by_cases hkj : k = j
            · subst hkj
              rw [he] at hke
              cases hke
              exact ⟨fun _ _ => by simpa using A3, hb' rfl⟩
            · exact hall k e' (by omega) hke⟩, sub_of ⟨rfl, rfl, rfl, rfl, rfl, rfl, rfl, rfl, trivial⟩⟩
      · refine zsd ?_
        refine zst ?_
        exact fin1 (.inl rfl) rfl rfl ⟨false, rfl, fun h => Bool.noConfusion h, x4.trans x5⟩
  · rw [show decide ((j : Int) < (t.elems.length : Int)) = false by simpa using hlt]
    refine zst ?_
    refine fin1 (.inl rfl) rfl rfl ⟨true, rfl, fun _ => ?_, xr⟩
    have hjl : j = t.elems.length := by omega
    refine .mk v t (hne1 fun h9 k e he hk => ((hall k e (by have := (List.getElem?_eq_some_iff.1 he).1; omega) he).1 h9 hk)) fun k e he => (hall k e (by have := (List.getElem?_eq_some_iff.1 he).1; omega) he).2
end Go.Proofs.YtpiegpegjbmlkaaGreatDoor
namespace Go.Kd
theorem flat_strs : ∀ l : List ByteArray, (l.map fun s => [Value.string s]).flatten = l.map fun s => .string s
  | [] => rfl
  | a :: r => by simp [flat_strs r]
/-- a whole list of strings, of a list that lies elsewhere -/
theorem stp_append_strs {P : Program} {e : Env} {d : Option Tmp} {ty t : TypeId} {pos : String} {aft : Array Edge} {g : Option (Nat × Bool)} {x y : Operand} {w : World} {el : Nat} {z : Value} [hu : Und P t (.slice el)] [hz : Zro P el [z]] [hi : Inf P el 1] [hb : Byt P el] {base base2 : Nat} {v u : Value} {l l2 : List ByteArray}
    (hx : ev e x = some v) (hy : ev e y = some u) (ho : Own w base el 1 v (l.map fun s => [.string s])) (ho2 : Own w base2 el 1 u (l2.map fun s => [.string s])) (hn : l.length + l2.length ≤ 1073741824) (hbase : base ≤ w.heap.size) :
    Stp P e ⟨d, .call ⟨.builtin .append, #[x, y], #[t, t]⟩, ty, pos, aft, g⟩ w (fun v' w' => Own w' base el 1 v' ((l ++ l2).map fun s => [.string s]) ∧ App w w' v) := ⟨fun ρ hρ => by
  obtain ⟨i, zv, h2, h3, h4⟩ := hz.at_
  obtain ⟨i', h5, h6⟩ := hi.at_
  obtain ⟨i2, h7, h8⟩ := hb.at_
  obtain rfl : i = i' := by rw [h2] at h5; exact Option.some.inj h5
  obtain rfl : i = i2 := by rw [h2] at h7; exact Option.some.inj h7
  have key : ∃ v' w', (Builtin.append_ #[t, t] ty #[v, u]).run P w = .ok v' w' ∧ Own w' base el 1 v' ((l ++ l2).map fun s => [.string s]) ∧ App w w' v := by
    rcases ho2.row.2 with ⟨h9, h10⟩ | ⟨q, cap, cur, h9, h10, h11, h12, h13, h14, h15⟩
    · subst h9
      have hl2 : l2 = [] := by simpa using h10
      subst hl2
      obtain ⟨a, cp, rfl, hcp, _⟩ := ho.shape
      refine ⟨_, w, run_append_nothing (P := P) w t t ty el i hu.at_ h2 a _ cp hcp _ (Src.ofNil w hu.at_ 0), by simpa using ho, World.grownBy.refl w _⟩
    · obtain ⟨v', w', hr, k1, k2, _⟩ := run_append_own_at (P := P) w base t ty el i zv 1 i.bytes hu.at_ h2 h3 h6 rfl (by rw [h4]; rfl) (by decide) v _ _ ho.row ⟨q, 0, none⟩ l2.length cap (l2.map fun s => .string s) (by simp)
        (fun j c hc => by
          have := ho2.row.cells (g := q) (by rw [h9]; rfl) j c (by
            rw [flat_strs]
            exact hc)
          exact this) (fun c hc => by
          obtain ⟨s, _, rfl⟩ := List.mem_map.1 hc; rfl) (by unfold maxLen; simp; omega) (by
          have : ((l.map fun s => [Value.string s]).length + l2.length) * i.bytes ≤ 1073741824 * 4096 := Nat.mul_le_mul (by simp; omega) h8
          omega) hbase
      rw [h9]
      simp only [List.length_map] at hr ⊢
      refine ⟨v', w', hr, ⟨fun c hc => ?_, ?_⟩, k2⟩
      · obtain ⟨s, _, rfl⟩ := List.mem_map.1 hc; rfl
      · have e1 : ((l ++ l2).map fun s => [Value.string s]).length = (l.map fun s => [Value.string s]).length + l2.length := by simp
        have e2 : ((l ++ l2).map fun s => [Value.string s]).flatten = (l.map fun s => [Value.string s]).flatten ++ l2.map fun s => .string s := by
          rw [List.map_append, List.flatten_append, flat_strs l2]
        rw [e1, e2]; exact k1
  obtain ⟨v', w', hr, h⟩ := key
  have he : (execOp ρ ⟨d, .call ⟨.builtin .append, #[x, y], #[t, t]⟩, ty, pos, aft, g⟩).run P w = .ok (.value v') w' := by
    simp only [execOp, resolve, invoke, builtin, List.map_toArray, List.map_cons, List.map_nil, hρ x _ hx, hρ y _ hy, Sem.run_bind, Sem.run_pure, Result.andThen_ok, hr]
  rw [he]
  exact h⟩
end Go.Kd
namespace Go.Proofs.YtpiegpegjbmlkaaGreatDoor
open Go Go.Kd
set_option maxRecDepth 100000

/-- a slice of methods' declarations -/
def MesV (w : World) (p : Nat → Prop) (a : Option Addr) (l : List Me) : Prop := ∃ f, SlC w p 9 a l.length f ∧ ∀ (i : Nat) m, l[i]? = some m → MeV w p (f i) m
theorem MesV.ext {w w' : World} (x : Ext w w') {p : Nat → Prop} {a : Option Addr} {l : List Me} (h : MesV w p a l) : MesV w' p a l := by
  obtain ⟨f, h1, h2⟩ := h
  exact ⟨f, h1.ext x, fun i m hm => (h2 i m hm).ext x⟩
abbrev mel (m : Me) (a : Option Addr) (c : Nat) : List Value := [.bool m.ptr, .int .i64 m.fn.kind, .int .i64 m.fn.n, .int .i64 m.fn.count, .bool m.fn.vr, .slice a m.fn.elems.length c, .string m.fn.name, .string m.fn.tag, .bool m.fn.emb]
theorem MesV.next {w : World} {p : Nat → Prop} {a : Option Addr} {l : List Me} (h : MesV w p a l) {i : Nat} {m : Me} (hm : l[i]? = some m) : ∃ b o a1 c1, a = some ⟨b, o, none⟩ ∧ p b ∧ Cells w b (o + i * 9) (mel m a1 c1) ∧ TysV w p a1 c1 m.fn.elems := by
  obtain ⟨f, h1, h2⟩ := h
  have hlt : i < l.length := (List.getElem?_eq_some_iff.1 hm).1
  obtain ⟨b, o, h3, h4, h5⟩ := h1 i hlt
  obtain ⟨ts, h6, h7⟩ := h2 i m hm
  obtain ⟨a1, c1, rfl, h8⟩ := h7.tys
  rw [h6] at h5
  exact ⟨b, o, a1, c1, h3, h4, h5, h8⟩
theorem Cells.mel_ty {w : World} {b o : Nat} {m : Me} {a : Option Addr} {c : Nat} (h : Cells w b o (mel m a c)) : Cells w b (o + 1) (tyc m.fn a c) :=
  h.part fun j v hv => by rw [← List.getElem?_drop]; exact hv
def mnames (l : List Me) : List ByteArray := l.map fun m => m.fn.name
end Go.Proofs.YtpiegpegjbmlkaaGreatDoor
namespace Go.Proofs.YtpiegpegjbmlkaaGreatDoor
open Go Go.Kd
set_option maxRecDepth 100000

theorem mn_len (l : List Me) : (mnames l).length = l.length := by simp [mnames]
theorem mnames_list (l : List Me) : (mnames l).map ByteArray.toList = names (l.map (·.fn)) := by simp [mnames, names]

set_option maxHeartbeats 8000000 in
theorem c_mayHave {D : List De} (hD : OkD D) {x : De} (hx : x ∈ D) (hG : Good D x.ty) (a : Option Addr) (cp : Nat) (a1 : Option Addr) (c1 : Nat) (a2 : Option Addr) (c2 : Nat) (w : World) (p : Nat → Prop) (hp : ∀ b, p b → b < w.heap.size) (hd : DsV w p (.slice a D.length cp) D) (ht : TysV w p a1 c1 x.ty.elems) (hm : MesV w p a2 x.ms) :
    Calls Tryz.prog 42 #[.slice a D.length cp, .agg (del x a1 c1 a2 c2).toArray] w (Ret fun r w' => ∃ b, r = .bool b ∧ (b = true → MayHave D x) ∧ Ext w w') := by
  have hwx := wtD_mem' hx
  have hwD := hD.wt
  have hDl := hD.len
  have hml := wtM_len x.ms
  have hmw : ∀ m ∈ x.ms, wt m.fn ≤ 16777216 := fun m hm => by have := wtM_mem hm; unfold wtDe at hwx; omega
  have hmsl : x.ms.length ≤ 16777216 := by unfold wtDe at hwx; omega
  have hGu := hG.under hD
  have hul := wt_len (underT D x.ty)
  have hwu := hGu.wt
  refine W.enter (args := [.slice a D.length cp, .agg (del x a1 c1 a2 c2).toArray]) Tryz.func42 rfl Tryz.ntmps42 rfl rfl ?_
  refine zst ?_
  refine WU.stp rfl rfl rfl (by first | exact stp_box rfl rfl | exact stp_box1 rfl rfl) ?_
  rintro _ w1 ⟨b1, rfl, n1⟩
  have e1 := n1.num
  have s1 := n1.size
  have i1 : Has w1 b1 (.cells (del x a1 c1 a2 c2).toArray 51) := n1.has
  have x1 := n1.ext
  clear n1
  refine zst ?_
  refine WU.yld rfl rfl rfl (yld_load_cells rfl (Cells.ty_of (Cells.has i1))) ?_
  refine WU.stp rfl rfl rfl (stp_call rfl (c_Underlying hD hG a cp a1 c1 w1 (fun b hb => by have := hp b hb; omega) (hd.ext x1) (ht.ext x1))) ?_
  rintro _ w2 ⟨a3, c3, rfl, ht2, x2⟩
  obtain ⟨u, hu⟩ : ∃ u, underT D x.ty = u := ⟨_, rfl⟩
  rw [hu] at hGu hul hwu ht2
  rw [hu]
  have s2 := x2.size
  refine WU.stp rfl rfl rfl stp_alloc ?_
  rintro _ w3 ⟨b3, rfl, n3⟩
  refine WU.stp0 rfl rfl (stp_store_whole rfl rfl rfl rfl) ?_
  rintro _ w4 u4
  have e3 := n3.num
  have s3 := n3.size
  have s4 := u4.size
  have x4 : Ext w2 w4 := (u4.ofNew n3).ext
  have i3 : Has w4 b3 (.cells (tyc u a3 c3).toArray 26) := u4.has
  have i1' : Has w4 b1 _ := (i1.ext' x2).ext' x4
  clear u4 n3
  have x04 := x1.trans (x2.trans x4)
  have hpp : ∀ b, btw w1 w2 p b → b < w4.heap.size := fun b hb => by
    rcases hb with hb | hb
    · have := hp b hb; omega
    · omega
  refine zst ?_
  refine W.loop (σ := Nat × Value) (fun (k, v) => [(16, .int .i64 k), (15, .int .i64 x.ms.length), (14, .slice a2 x.ms.length c2), (6, v), (5, .pointer (some ⟨b3, 0, none⟩)), (4, .bool false), (3, .pointer (some ⟨b1, 0, none⟩)), (0, .slice a D.length cp)])
    (fun (k, v) D' wk => D' = [] ∧ k ≤ x.ms.length ∧ Ext w4 wk ∧ Own wk w4.heap.size 9 1 v ((mnames (x.ms.take k)).map fun s => [.string s]) ∧ ∀ (j : Nat) m, j < k → x.ms[j]? = some m → m.fn.name.toList ≠ us ∧ m.fn.kind = 8 ∧ Shaped D D.length false m.fn ∧ Legal D m.fn)
    (fun (k, _) => x.ms.length - k) (0, .slice none 0 0) ⟨rfl, Nat.zero_le _, Ext.rfl' _, Own.nil .., fun j e h => by omega⟩ (by exact sub_of ⟨rfl, rfl, rfl, rfl, rfl, rfl, rfl, rfl, trivial⟩) ?_
  rintro ⟨k, v⟩ D' wr ⟨rfl, hk, xr, ho, hall⟩
  have sr := xr.size
  have i1r : Has wr b1 _ := i1'.ext' xr
  have i3r : Has wr b3 _ := i3.ext' xr
  refine zst ?_
  by_cases hlt : k < x.ms.length
  · rw [show decide ((k : Int) < (x.ms.length : Int)) = true by simpa using hlt]
    have he := List.getElem?_eq_getElem hlt
    have hmk := hmw x.ms[k] (List.getElem_mem hlt)
    have htk : (mnames (x.ms.take (k + 1))).map (fun s => [Value.string s]) = (mnames (x.ms.take k)).map (fun s => [Value.string s]) ++ [[.string x.ms[k].fn.name]] := by
      rw [List.take_add_one, he]; simp only [mnames, List.map_append, Option.toList, List.map_cons, List.map_nil]
    generalize x.ms[k] = m at he htk hmk
    obtain ⟨b, o, a5, c5, rfl, hpb, hc, hte⟩ := hm.next he
    have hc' : Cells wr b (o + k * 9) (mel m a5 c5) := hc.ext (x04.trans xr)
    refine zst ?_
    refine WU.yld rfl rfl rfl (yld_load_cells rfl hc') ?_
    refine WU.stp rfl rfl rfl stp_alloc ?_
    rintro _ w5 ⟨b5, rfl, n5⟩
    refine WU.stp0 rfl rfl (stp_store_whole rfl rfl rfl rfl) ?_
    rintro _ w6 u6
    have x6 : Ext wr w6 := (u6.ofNew n5).ext
    have i6 : Has w6 b5 (.cells (mel m a5 c5).toArray 92) := u6.has
    have s6 := x6.size
    have e5 := n5.num
    have i1s : Has w6 b1 _ := i1r.ext' x6
    have i3s : Has w6 b3 _ := i3r.ext' x6
    clear u6 n5
    refine zst ?_
    refine WU.stp rfl rfl rfl (stp_buildSlice rfl rfl rfl rfl rfl) ?_
    rintro _ w7 ⟨b7, rfl, n7⟩
    have e7 := n7.num
    have i7 : Has w7 b5 _ := i6.ext' n7.ext
    have hol := ho.lt
    refine WU.stp rfl rfl rfl (stp_append_cell (u := .string m.fn.name) rfl rfl (ho.ext (x6.trans n7.ext)) (cell_of n7.has rfl) rfl (by rw [List.length_map, mn_len]; simp; omega) (by have := n7.ext.size; omega)) ?_
    rintro v8 w8 ⟨h1, h2, h3⟩
    have x8 := h2.ext (ho.ext (x6.trans n7.ext)) (xr.trans (x6.trans n7.ext)) (Nat.le_refl _)
    have i8 : Has w8 b5 _ := h2.keep i7 (fun g hg => by have := hol g hg; omega)
    have s8 := x8.size
    rw [← htk] at h1
    have x08 := x04.trans x8
    refine zst ?_
    rw [us_list]
    cases q1 : (m.fn.name.toList == us)
    · refine zst ?_
      cases q2 : (m.fn.kind != 8)
      · refine zst ?_
        refine WU.yld rfl rfl rfl (yld_load_cells rfl (Cells.mel_ty (Cells.has i8))) ?_
        refine zst ?_
        refine WU.stp rfl rfl rfl (stp_call rfl (c_shaped hDl _ cp p m.fn hmk D.length false a5 c5 w8 (hd.ext x08) (hte.ext x08))) ?_
        rintro _ w9 ⟨bs, rfl, hbs, x9⟩
        cases bs
        · refine zst ?_
          exact fin1 (.inl rfl) rfl rfl ⟨false, rfl, fun h => Bool.noConfusion h, x08.trans x9⟩
        · have hsm := hbs rfl
          have i9 : Has w9 b5 _ := i8.ext' x9
          have s9 := x9.size
          refine zst ?_
          refine WU.yld rfl rfl rfl (yld_load_cells rfl (Cells.mel_ty (Cells.has i9))) ?_
          have x09 := x08.trans x9
          refine WU.stp rfl rfl rfl (stp_call rfl (c_legal hD _ cp m.fn ⟨⟨D.length, false, Nat.le_refl _, hsm⟩, hmk⟩ a5 c5 w9 p (fun b hb => by have := hp b hb; have := x09.size; omega) (hd.ext x09) (hte.ext x09))) ?_
          rintro _ w10 ⟨bl, rfl, hbl, x10⟩
          cases bl
          · refine zst ?_
            exact fin1 (.inl rfl) rfl rfl ⟨false, rfl, fun h => Bool.noConfusion h, x09.trans x10⟩
          · refine zst ?_
            exact ⟨(k + 1, v8), by show x.ms.length - (k + 1) < x.ms.length - k; omega, ⟨rfl, by omega, x8.trans (x9.trans x10), h1.ext (x9.trans x10), fun j m' hj hm' => by
              by_cases hjk : j = k
              · subst hjk; rw [he] at hm'; cases hm'; exact ⟨by simpa using q1, by simpa using q2, hsm, hbl rfl⟩
              · exact hall j m' (by omega) hm'⟩, sub_of ⟨rfl, rfl, rfl, rfl, rfl, rfl, rfl, rfl, trivial⟩⟩
      · refine zst ?_
        exact fin1 (.inl rfl) rfl rfl ⟨false, rfl, fun h => Bool.noConfusion h, x08⟩
    · refine zst ?_
      exact fin1 (.inl rfl) rfl rfl ⟨false, rfl, fun h => Bool.noConfusion h, x08⟩
  rw [show decide ((k : Int) < (x.ms.length : Int)) = false by simpa using hlt]
  have htk : x.ms.take k = x.ms := List.take_of_length_le (by omega)
  rw [htk] at ho
  have hfn : ∀ m ∈ x.ms, m.fn.name.toList ≠ us ∧ m.fn.kind = 8 ∧ Shaped D D.length false m.fn ∧ Legal D m.fn := fun m hm => by
    obtain ⟨j, hj⟩ := List.getElem?_of_mem hm
    exact hall j m (by have := (List.getElem?_eq_some_iff.1 hj).1; omega) hj
  clear hall
  have x0r := x04.trans xr
  have htu : TysV wr (btw w1 w2 p) a3 c3 u.elems := ht2.ext (x4.trans xr)
  have huel : ∀ e ∈ u.elems, Good D e := fun e he => by
    obtain ⟨i, hi⟩ := List.getElem?_of_mem he
    exact hGu.el hi
  have hmsz : ∀ s ∈ mnames x.ms, s.size ≤ 9223372036854775807 := fun s hs => by
    obtain ⟨m, hm, rfl⟩ := List.mem_map.1 hs
    have := hmw m hm
    rw [wt_eq] at this
    omega
  -- behind the joining of the two lists of names
  have tail : ∀ (wk : World) (v : Value) (l : List ByteArray), Ext w wk → Has wk b1 (.cells (del x a1 c1 a2 c2).toArray 51) → Has wk b3 (.cells (tyc u a3 c3).toArray 26) → StrV wk (fun b => v.ownBlock = some b) v l → l.length ≤ 1073741824 → (∀ s ∈ l, s.size ≤ 9223372036854775807) →
      (l.map ByteArray.toList = names (x.ms.map (·.fn)) ++ (if u.kind = 7 then names u.elems else [])) →
      ∃ c, dropA 12 (bodyA Tryz.f42) = some c ∧ W Tryz.prog 89 c (fin Tryz.prog Tryz.f42 (Ret fun r w' => ∃ b, r = .bool b ∧ (b = true → MayHave D x) ∧ Ext w w')) [] [(6, v), (5, .pointer (some ⟨b3, 0, none⟩)), (4, .bool false), (3, .pointer (some ⟨b1, 0, none⟩))] wk := by
    intro wk v l xk i1 i3 hv hll hsz hlist
    refine ⟨_, rfl, ?_⟩
    have hcon : ∀ bu : Bool, (bu = true → Uniq (l.map ByteArray.toList)) → bu = true → (x.ms ≠ [] → x.al = false ∧ u.kind ≠ 2 ∧ u.kind ≠ 9 ∧ ¬ isUns u) → MayHave D x := fun bu h1 h2 h3 => ⟨hfn, by rw [hu, ← hlist]; exact h1 h2, fun h => by rw [hu]; exact h3 h⟩
    refine zst ?_
    refine WU.stp rfl rfl rfl (stp_call rfl (c_unique l v wk _ hv hll hsz)) ?_
    rintro _ w2 ⟨bu, rfl, hbu, rfl⟩
    cases bu
    · refine zst ?_
      exact fin1 (.inl rfl) rfl rfl ⟨false, rfl, fun h => Bool.noConfusion h, xk⟩
    · refine zst ?_
      cases q0 : ((x.ms.length : Int) == 0)
      · refine zst ?_
        cases q1 : x.al
        · refine zst ?_
          cases q2 : (u.kind != 2)
          · refine zst ?_
            exact fin1 (.inl rfl) rfl rfl ⟨false, rfl, fun h => Bool.noConfusion h, xk⟩
          · refine zst ?_
            cases q3 : (u.kind != 9)
            · refine zst ?_
              exact fin1 (.inl rfl) rfl rfl ⟨false, rfl, fun h => Bool.noConfusion h, xk⟩
            · refine zst ?_
              refine WU.stp rfl rfl rfl (stp_call rfl (c_isUnsafePointer u a3 c3 wk)) ?_
              rintro _ w3 ⟨rfl, x3⟩
              refine zst ?_
              refine fin1 (.inl rfl) rfl rfl ⟨_, rfl, fun h => hcon true hbu rfl fun _ => ⟨q1, by simpa using q2, by simpa using q3, fun ⟨z1, z2⟩ => ?_⟩, xk.trans x3⟩
              simp [z1, z2] at h
        · refine zst ?_
          exact fin1 (.inl rfl) rfl rfl ⟨false, rfl, fun h => Bool.noConfusion h, xk⟩
      · refine zst ?_
        refine fin1 (.inl rfl) rfl rfl ⟨true, rfl, fun _ => hcon true hbu rfl fun h => ?_, xk⟩
        exact absurd (by simpa using q0) h
  (repeat ((fail_if_success guard_target =~ gW (.seq (.region 12 _ _) _)); (fail_if_success guard_target =~ gW (.seq (.seq (.region 12 _ _) _) _)); refine zs1 ?_))
  cases k7 : (u.kind == 7)
  · (repeat ((fail_if_success guard_target =~ gW (.seq (.region 12 _ _) _)); (fail_if_success guard_target =~ gW (.seq (.seq (.region 12 _ _) _) _)); refine zs1 ?_))
    refine W.useA (tail wr v (mnames x.ms) x0r i1r i3r ho.strs (by rw [mn_len]; omega) hmsz ?_) rfl ⟨rfl, rfl, rfl, rfl, trivial⟩
    rw [mnames_list, if_neg (by simpa using k7), List.append_nil]
  · (repeat ((fail_if_success guard_target =~ gW (.seq (.region 12 _ _) _)); (fail_if_success guard_target =~ gW (.seq (.seq (.region 12 _ _) _) _)); refine zs1 ?_))
    refine WU.stp rfl rfl rfl (stp_call rfl (c_namesOf u.elems a3 c3 wr _ htu (by omega))) ?_
    rintro v5 w5 ⟨hv5, ho5, x5⟩
    have i1q : Has w5 b1 _ := i1r.ext' x5
    have i3q : Has w5 b3 _ := i3r.ext' x5
    have hol := ho.lt
    have s5 := x5.size
    refine WU.stp rfl rfl rfl (stp_append_strs rfl rfl (ho.ext x5) ho5 (by rw [mn_len, tn_len]; omega) (by omega)) ?_
    rintro v6 w6 ⟨h1, h2⟩
    have x6 := h2.ext (ho.ext x5) (xr.trans x5) (Nat.le_refl _)
    have b1lt := i1r.lt
    have i1z : Has w6 b1 _ := h2.keep i1q (fun g hg => by have := hol g hg; omega)
    have i3z : Has w6 b3 _ := h2.keep i3q (fun g hg => by have := hol g hg; omega)
    (repeat ((fail_if_success guard_target =~ gW (.seq (.region 12 _ _) _)); (fail_if_success guard_target =~ gW (.seq (.seq (.region 12 _ _) _) _)); refine zs1 ?_))
    refine W.useA (tail w6 v6 (mnames x.ms ++ tnames u.elems) (x04.trans x6) i1z i3z h1.strs (by rw [List.length_append, mn_len, tn_len]; omega) (fun s hs => ?_) ?_) rfl ⟨rfl, rfl, rfl, rfl, trivial⟩
    · rcases List.mem_append.1 hs with h | h
      · exact hmsz s h
      · exact names_sz huel s h
    · rw [List.map_append, mnames_list, tnames_list, if_pos (by simpa using k7)]
end Go.Proofs.YtpiegpegjbmlkaaGreatDoor
namespace Go.Proofs.YtpiegpegjbmlkaaGreatDoor
open Go Go.Kd
set_option maxRecDepth 100000

set_option maxHeartbeats 8000000 in
theorem c_Valid {D : List De} (hDw : wtD D ≤ 16777216) (hDl : D.length ≤ 16777216) {l : List Ty} (hl : ∀ t ∈ l, wt t ≤ 16777216) (hll : l.length ≤ 16777216) (a : Option Addr) (cp : Nat) (a1 : Option Addr) (c1 : Nat) (w : World) (p : Nat → Prop) (hp : ∀ b, p b → b < w.heap.size)
    (hd : DsV w p (.slice a D.length cp) D) (ht : TysV w p a1 c1 l) :
    Calls Tryz.prog 16 #[.slice a D.length cp, .slice a1 l.length c1] w (Ret fun r w' => ∃ b, r = .bool b ∧ (b = true → ValidD D ∧ ∀ t ∈ l, ValidT D t) ∧ Ext w w') := by
  have hfl : ∀ w', Ext w w' → ∃ b, Value.bool false = .bool b ∧ (b = true → ValidD D ∧ ∀ t ∈ l, ValidT D t) ∧ Ext w w' := fun w' x => ⟨false, rfl, fun h => Bool.noConfusion h, x⟩
  have hew : ∀ e ∈ D, wt e.ty ≤ 16777216 ∧ e.name.size ≤ 16777216 := fun e he => by
    have := wtD_mem' he
    unfold wtDe at this
    omega
  refine W.enter (args := [.slice a D.length cp, .slice a1 l.length c1]) Tryz.func16 rfl Tryz.ntmps16 rfl rfl ?_
  refine zst ?_
  -- the declarations' form
  refine W.loop (σ := Nat) (fun k => [(13, .int .i64 k), (12, .int .i64 D.length), (11, .slice a D.length cp), (4, .bool false), (1, .slice a1 l.length c1), (0, .slice a D.length cp)])
    (fun k D' wk => D' = [] ∧ k ≤ D.length ∧ Ext w wk ∧ ∀ (j : Nat) e, j < k → D[j]? = some e → (Ident e.name.toList ∧ e.name.toList ≠ us) ∧ (e.pkg = 0 ∨ e.pkg = 1) ∧ Shaped D j true e.ty)
    (fun k => D.length - k) 0 ⟨rfl, Nat.zero_le _, Ext.rfl' _, fun j e h => by omega⟩ (by exact sub_of ⟨rfl, rfl, rfl, rfl, rfl, rfl, trivial⟩) ?_
  rintro k D' wr ⟨rfl, hk, xr, hall⟩
  have sr := xr.size
  refine zst ?_
  by_cases hlt : k < D.length
  · rw [show decide ((k : Int) < (D.length : Int)) = true by simpa using hlt]
    have he := List.getElem?_eq_getElem hlt
    have hmk := hew D[k] (List.getElem_mem hlt)
    generalize D[k] = x at he hmk
    obtain ⟨b, o, a3, c3, a4, c4, f, rfl, hpb, hc, hte, _⟩ := hd.next he
    have hc' : Cells wr b (o + k * 12) (del x a3 c3 a4 c4) := hc.ext xr
    refine zst ?_
    refine WU.yld rfl rfl rfl (yld_load_cells rfl hc') ?_
    refine WU.stp rfl rfl rfl stp_alloc ?_
    rintro _ w3 ⟨b3, rfl, n3⟩
    refine zst ?_
    refine WU.stp0 rfl rfl (stp_store_whole rfl rfl rfl rfl) ?_
    rintro _ w4 u4
    have x4 : Ext wr w4 := (u4.ofNew n3).ext
    have i4 : Has w4 b3 (.cells (del x a3 c3 a4 c4).toArray 51) := u4.has
    have s4 := x4.size
    clear u4 n3
    have xx := xr.trans x4
    refine zst ?_
    refine WU.stp rfl rfl rfl (stp_call rfl (c_isIdentifier x.name w4 (by omega))) ?_
    rintro _ w5 ⟨bi, rfl, hbi, rfl⟩
    cases bi
    · refine zst ?_
      exact fin1 (.inl rfl) rfl rfl (hfl _ xx)
    · refine zst ?_
      rw [us_list]
      cases q1 : (x.name.toList == us)
      · refine zst ?_
        cases q2 : decide (x.pkg < 0)
        · refine zst ?_
          cases q3 : decide (x.pkg > 1)
          · refine zst ?_
            refine WU.yld rfl rfl rfl (yld_load_cells rfl (Cells.ty_of (Cells.has i4))) ?_
            refine zst ?_
            refine WU.stp rfl rfl rfl (stp_call rfl (c_shaped hDl _ cp p x.ty hmk.1 k true a3 c3 w4 (hd.ext xx) (hte.ext xx))) ?_
            rintro _ w5 ⟨bs, rfl, hbs, x5⟩
            cases bs
            · refine zst ?_
              exact fin1 (.inl rfl) rfl rfl (hfl _ (xx.trans x5))
            · refine zst ?_
              exact ⟨k + 1, by omega, ⟨rfl, by omega, xx.trans x5, fun j e hj he' => by
                by_cases hjk : j = k
                · subst hjk; rw [he] at he'; cases he'
                  simp only [decide_eq_false_iff_not] at q2 q3
                  exact ⟨⟨hbi rfl, by simpa using q1⟩, by omega, hbs rfl⟩
                · exact hall j e (by omega) he'⟩, sub_of ⟨rfl, rfl, rfl, rfl, rfl, rfl, trivial⟩⟩
          · refine zst ?_
            exact fin1 (.inl rfl) rfl rfl (hfl _ xx)
        · refine zst ?_
          exact fin1 (.inl rfl) rfl rfl (hfl _ xx)
      · refine zst ?_
        exact fin1 (.inl rfl) rfl rfl (hfl _ xx)
  rw [show decide ((k : Int) < (D.length : Int)) = false by simpa using hlt]
  have hform : ∀ (j : Nat) e, D[j]? = some e → (Ident e.name.toList ∧ e.name.toList ≠ us) ∧ (e.pkg = 0 ∨ e.pkg = 1) ∧ Shaped D j true e.ty := fun j e he => hall j e (by have := (List.getElem?_eq_some_iff.1 he).1; omega) he
  clear hall
  have hD : OkD D := ⟨fun j e he => (hform j e he).2.2, hDw, hDl⟩
  have hdr : DsV wr p (.slice a D.length cp) D := hd.ext xr
  have htr : TysV wr p a1 c1 l := ht.ext xr
  have hpr : ∀ b, p b → b < wr.heap.size := fun b hb => by have := hp b hb; omega
  refine zst ?_
  -- legal, with methods
  refine W.loop (σ := Nat) (fun k => [(48, .int .i64 k), (47, .int .i64 D.length), (46, .slice a D.length cp), (4, .bool false), (1, .slice a1 l.length c1), (0, .slice a D.length cp)])
    (fun k D' wk => D' = [] ∧ k ≤ D.length ∧ Ext wr wk ∧ ∀ (j : Nat) e, j < k → D[j]? = some e → Legal D e.ty ∧ MayHave D e)
    (fun k => D.length - k) 0 ⟨rfl, Nat.zero_le _, Ext.rfl' _, fun j e h => by omega⟩ (by exact sub_of ⟨rfl, rfl, rfl, rfl, rfl, rfl, trivial⟩) ?_
  rintro m D' wm ⟨rfl, hm, xm, hall⟩
  have sm := xm.size
  refine zst ?_
  by_cases hmt : m < D.length
  · rw [show decide ((m : Int) < (D.length : Int)) = true by simpa using hmt]
    have he := List.getElem?_eq_getElem hmt
    generalize D[m] = x at he
    obtain ⟨b, o, a3, c3, a4, c4, f, rfl, hpb, hc, hte, hms⟩ := hdr.next he
    have hc' : Cells wm b (o + m * 12) (del x a3 c3 a4 c4) := hc.ext xm
    refine zst ?_
    refine WU.yld rfl rfl rfl (yld_load_cells rfl hc') ?_
    refine WU.stp rfl rfl rfl stp_alloc ?_
    rintro _ w3 ⟨b3, rfl, n3⟩
    refine WU.stp0 rfl rfl (stp_store_whole rfl rfl rfl rfl) ?_
    rintro _ w4 u4
    have x4 : Ext wm w4 := (u4.ofNew n3).ext
    have i4 : Has w4 b3 (.cells (del x a3 c3 a4 c4).toArray 51) := u4.has
    have s4 := x4.size
    clear u4 n3
    have xx := xm.trans x4
    have hGx := Good.of_D hD he
    refine zst ?_
    refine WU.yld rfl rfl rfl (yld_load_cells rfl (Cells.ty_of (Cells.has i4))) ?_
    refine WU.stp rfl rfl rfl (stp_call rfl (c_legal hD _ cp x.ty hGx a3 c3 w4 p (fun b hb => by have := hpr b hb; omega) (hdr.ext xx) (hte.ext xx))) ?_
    rintro _ w5 ⟨bl, rfl, hbl, x5⟩
    cases bl
    · refine zst ?_
      exact fin1 (.inl rfl) rfl rfl (hfl _ (xr.trans (xx.trans x5)))
    · have i5 : Has w5 b3 _ := i4.ext' x5
      have s5 := x5.size
      refine zst ?_
      refine WU.stp rfl rfl rfl (stp_call rfl (c_mayHave hD (List.mem_of_getElem? he) hGx _ cp a3 c3 a4 c4 w5 p (fun b hb => by have := hpr b hb; omega) (hdr.ext (xx.trans x5)) (hte.ext (xx.trans x5)) (MesV.ext (xx.trans x5) ⟨f, hms⟩))) ?_
      rintro _ w6 ⟨bm, rfl, hbm, x6⟩
      cases bm
      · refine zst ?_
        exact fin1 (.inl rfl) rfl rfl (hfl _ (xr.trans (xx.trans (x5.trans x6))))
      · refine zst ?_
        exact ⟨m + 1, by omega, ⟨rfl, by omega, xx.trans (x5.trans x6), fun j e hj he' => by
          by_cases hjk : j = m
          · subst hjk; rw [he] at he'; cases he'; exact ⟨hbl rfl, hbm rfl⟩
          · exact hall j e (by omega) he'⟩, sub_of ⟨rfl, rfl, rfl, rfl, rfl, rfl, trivial⟩⟩
  rw [show decide ((m : Int) < (D.length : Int)) = false by simpa using hmt]
  have hVD : ValidD D := ⟨hD.sh, fun i e he => (hform i e he).1, fun i e he => (hform i e he).2.1, fun i e he => (hall i e (by have := (List.getElem?_eq_some_iff.1 he).1; omega) he).1, fun i e he => (hall i e (by have := (List.getElem?_eq_some_iff.1 he).1; omega) he).2⟩
  clear hall
  have xrm := xr.trans xm
  have hdm : DsV wm p (.slice a D.length cp) D := hdr.ext xm
  have htm : TysV wm p a1 c1 l := htr.ext xm
  have hpm : ∀ b, p b → b < wm.heap.size := fun b hb => by have := hpr b hb; omega
  refine zst ?_
  -- the types
  refine W.loop (σ := Nat) (fun k => [(66, .int .i64 k), (65, .int .i64 l.length), (64, .slice a1 l.length c1), (4, .bool false), (0, .slice a D.length cp)])
    (fun k D' wk => D' = [] ∧ k ≤ l.length ∧ Ext wm wk ∧ ∀ (j : Nat) t, j < k → l[j]? = some t → ValidT D t)
    (fun k => l.length - k) 0 ⟨rfl, Nat.zero_le _, Ext.rfl' _, fun j e h => by omega⟩ (by exact sub_of ⟨rfl, rfl, rfl, rfl, rfl, trivial⟩) ?_
  rintro q D' wq ⟨rfl, hq, xq, hall⟩
  have sq := xq.size
  refine zst ?_
  by_cases hqt : q < l.length
  · rw [show decide ((q : Int) < (l.length : Int)) = true by simpa using hqt]
    have he := List.getElem?_eq_getElem hqt
    have hwt := hl l[q] (List.getElem_mem hqt)
    generalize l[q] = t at he hwt
    obtain ⟨b, o, a3, c3, rfl, hpb, hc, hte⟩ := htm.next he
    have hc' : Cells wq b (o + q * 8) (tyc t a3 c3) := hc.ext xq
    refine zst ?_
    refine WU.yld rfl rfl rfl (yld_load_cells rfl hc') ?_
    refine WU.stp rfl rfl rfl stp_alloc ?_
    rintro _ w3 ⟨b3, rfl, n3⟩
    refine WU.stp0 rfl rfl (stp_store_whole rfl rfl rfl rfl) ?_
    rintro _ w4 u4
    have x4 : Ext wq w4 := (u4.ofNew n3).ext
    have i4 : Has w4 b3 (.cells (tyc t a3 c3).toArray 26) := u4.has
    have s4 := x4.size
    clear u4 n3
    have xx := xq.trans x4
    refine zst ?_
    refine WU.stp rfl rfl rfl (stp_call rfl (c_shaped hDl a cp p t hwt D.length true a3 c3 w4 (hdm.ext xx) (hte.ext xx))) ?_
    rintro _ w5 ⟨bs, rfl, hbs, x5⟩
    cases bs
    · refine zst ?_
      exact fin1 (.inl rfl) rfl rfl (hfl _ (xrm.trans (xx.trans x5)))
    · have i5 : Has w5 b3 _ := i4.ext' x5
      have s5 := x5.size
      have hGt : Good D t := ⟨⟨D.length, true, Nat.le_refl _, hbs rfl⟩, hwt⟩
      refine zst ?_
      refine WU.stp rfl rfl rfl (stp_call rfl (c_legal hD a cp t hGt a3 c3 w5 p (fun b hb => by have := hpm b hb; omega) (hdm.ext (xx.trans x5)) (hte.ext (xx.trans x5)))) ?_
      rintro _ w6 ⟨bl, rfl, hbl, x6⟩
      cases bl
      · refine zst ?_
        exact fin1 (.inl rfl) rfl rfl (hfl _ (xrm.trans (xx.trans (x5.trans x6))))
      · refine zst ?_
        exact ⟨q + 1, by omega, ⟨rfl, by omega, xx.trans (x5.trans x6), fun j e hj he' => by
          by_cases hjk : j = q
          · subst hjk; rw [he] at he'; cases he'; exact ⟨hbs rfl, hbl rfl⟩
          · exact hall j e (by omega) he'⟩, sub_of ⟨rfl, rfl, rfl, rfl, rfl, trivial⟩⟩
  rw [show decide ((q : Int) < (l.length : Int)) = false by simpa using hqt]
  refine zst ?_
  refine fin1 (.inl rfl) rfl rfl ⟨true, rfl, fun _ => ⟨hVD, fun t ht => ?_⟩, xrm.trans xq⟩
  obtain ⟨j, hj⟩ := List.getElem?_of_mem ht
  exact hall j t (by have := (List.getElem?_eq_some_iff.1 hj).1; omega) hj
end Go.Proofs.YtpiegpegjbmlkaaGreatDoor
namespace Go.Proofs.YtpiegpegjbmlkaaGreatDoor
open Go Go.Kd
set_option maxRecDepth 100000

def Gs.setNm (s : Gs) (k : Nat) (v : Value) : Gs := { s with nm := fun i => if i = k then some v else s.nm i }
theorem Gs.le_setNm {s : Gs} {k : Nat} {v : Value} (h : s.nm k = none) : s.le (s.setNm k v) := ⟨fun i u hi => by
  unfold Gs.setNm
  by_cases hik : i = k
  · subst hik; rw [h] at hi; cases hi
  · simp [hik, hi], fun _ _ h => h, rfl, rfl⟩
theorem Gs.setNm_same (s : Gs) (k : Nat) (v : Value) : (s.setNm k v).nm k = some v := by simp [Gs.setNm]
/-- .. for facts on sealed blocks -/
structure Gs.sle (s s' : Gs) : Prop where
  le : s.le s'
  sl : ∀ d, s.sl d → s'.sl d
theorem Gs.gle.sle {s s' : Gs} (h : s.gle s') : s.sle s' := ⟨h.le, h.sl⟩
theorem Gs.sle.trans {a b c : Gs} (h : a.sle b) (k : b.sle c) : a.sle c := ⟨h.le.trans k.le, fun d hd => k.sl d (h.sl d hd)⟩
theorem Gs.sle_setNm {s : Gs} {k : Nat} {v : Value} (h : s.nm k = none) : s.sle (s.setNm k v) := ⟨Gs.le_setNm h, fun _ h => h⟩
theorem RT.sle {K : Cfg} {s s' : Gs} {w : World} (l : s.sle s') {v : Value} {t : Ty} (h : RT K s w s.sl v t) : RT K s' w s'.sl v t := (h.le l.le).mono fun d _ hd => l.sl d hd
theorem TSv.sle {K : Cfg} {s s' : Gs} {w : World} {p : Nat → Prop} (l : s.sle s') {b : Nat} {t : Ty} (h : TSv K s w p b t) : TSv K s' w p b t := h.le l.le l.sl
theorem DclV.sle {K : Cfg} {s s' : Gs} {w : World} (l : s.sle s') {n : Nat} {e : De} {d : Bool} (h : DclV K s w n e d) : DclV K s' w n e d := by
  cases h with
  | def0 b ob h1 h2 h3 h4 h5 => exact .def0 b ob h1 (l.le.nm _ _ h2) (l.le.g _ _ h3) (by rw [l.le.pk]; exact h4) h5
  | def1 b ob u ms y h1 h2 h3 h4 h5 h6 h7 h8 => exact .def1 b ob u ms y h1 (l.le.nm _ _ h2) (l.le.g _ _ h3) (by rw [l.le.pk]; exact h4) h5 (h6.sle l) h7 h8
  | al0 h1 => exact .al0 h1
  | al1 b ob v v1 y h1 h2 h3 h4 h5 h6 h7 h8 h9 h10 h11 => exact .al1 b ob v v1 y h1 (l.le.nm _ _ h2) (by rw [l.le.pk]; exact h3) h4 (h5.sle l) h6 (h7.sle l) h8 h9 h10 h11
theorem ErrI.sle {K : Cfg} {s s' : Gs} {w : World} (l : s.sle s') (h : ErrI K s w) : ErrI K s' w := by
  obtain ⟨b, ob, u, ms, nm, h1, h2, h3, h4, h5⟩ := h
  exact ⟨b, ob, u, ms, nm, by rw [l.le.er]; exact h1, l.le.g _ _ h2, by rw [l.le.er]; exact h3, h4, h5.sle l⟩
/-- the row of names -/
def NR (K : Cfg) (s : Gs) (w : World) (bb : Nat) : Prop := ∃ v cs, Has w bb (.cells #[s.pk 0, s.pk 1, .slice (some ⟨K.nb, 0, none⟩) K.D.length K.D.length, s.er, v] tBU) ∧ Has w K.nb (.cells cs tTY) ∧ cs.size = K.D.length ∧ ∀ i u, s.nm i = some u → cs[i]? = some u
/-- the builder while declarations are made -/
structure BL (K : Cfg) (P : Nat → Prop) (s : Gs) (w : World) (bb : Nat) (made : List Nat) : Prop where
  bi : BI K s w bb made
  nr : NR K s w bb
  er : ErrI K s w
  ii : IIP K s w P made
  prp : Prp w
  gN : gP < K.N
  vd : ValidD K.D
  wd : wtD K.D ≤ 16777216
section
variable {K : Cfg} {P : Nat → Prop} {s s' : Gs} {w w' : World} {bb : Nat} {md : List Nat}
theorem Fresh.kept (hk : NKept w w') {c : Nat} {u : Ty} (h : Fresh w c u) : Fresh w' c u := by
  have key : ∀ ts, IfT w c ts → IfT w' c ts := fun ts ⟨ma, mn, mc, ea, en, ec, h⟩ => ⟨ma, mn, mc, ea, en, ec, hk _ _ _ h (by decide) (by decide)⟩
  rcases h with h | ⟨⟨tb, v, h1, h2, a, c', tb', h3, h4, h5⟩, h6⟩
  · exact .inl (key _ h)
  · exact .inr ⟨⟨tb, v, key _ h1, hk _ _ _ h2 (by decide) (by decide), a, c', tb', h3, fun i hi => by
      obtain ⟨b, cs, k1, k2, k3⟩ := h4 i hi
      exact ⟨b, cs, k1, hk _ _ _ k2 (by decide) (by decide), k3⟩, hk _ _ _ h5 (by decide) (by decide)⟩, h6⟩
theorem NKept.of_ext (x : Ext w w') : NKept w w' := fun _ _ _ h _ _ => h.ext' x
theorem IIP.chg {l : Nat} (x : Sta K l w w') (hl : l ≤ 3) (hk : NKept w w') (h : IIP K s w P md) : IIP K s w' P md := fun c u hc => by
  obtain ⟨r1, r2⟩ := h c u hc
  refine ⟨r1, fun hu => ?_⟩
  obtain ⟨p1, p2, p3⟩ := r2 hu
  exact ⟨p1, p2.sta x hl, p3.imp (fun k => k.sta x hl) fun k => ⟨k.1, k.2.kept hk⟩⟩
theorem IIP.sle (l : s.sle s') (hg : s'.g = s.g) (h : IIP K s w P md) : IIP K s' w P md := fun c u hc => by
  rw [hg] at hc
  obtain ⟨r1, r2⟩ := h c u hc
  refine ⟨r1, fun hu => ?_⟩
  obtain ⟨p1, p2, p3⟩ := r2 hu
  exact ⟨p1, p2.sle l, p3.imp (fun k => k.sle l) id⟩
/-- only named types and objects have turned -/
theorem BL.chg {l : Nat} (x : Sta K l w w') (hl : l ≤ 3) (hk : NKept w w') (h : BL K P s w bb md) : BL K P s w' bb md :=
  ⟨h.bi.keep x.size (fun d cs t hd ht => (by
    have h1 := hk d cs t ⟨hd⟩ (by rcases ht with rfl | ⟨rfl, _⟩ | rfl | rfl <;> decide) (by rcases ht with rfl | ⟨rfl, _⟩ | rfl | rfl <;> decide)
    exact h1.at_.trans hd.symm)) fun _ _ hr => hr.sta x hl, by
    obtain ⟨v, cs, h1, h2, h3, h4⟩ := h.nr
    exact ⟨v, cs, hk _ _ _ h1 (by decide) (by decide), hk _ _ _ h2 (by decide) (by decide), h3, h4⟩, h.er.sta x hl, IIP.chg x hl hk h.ii, h.prp.sta x h.gN, h.gN, h.vd, h.wd⟩
theorem BL.ext (x : Ext w w') (h : BL K P s w bb md) : BL K P s w' bb md := h.chg (l := 0) (.of_ext x) (by omega) (.of_ext x)
theorem BL.hN (h : BL K P s w bb md) : K.N ≤ w.heap.size := by
  obtain ⟨v, cs, h1, _⟩ := h.nr
  have := h1.lt
  have := h.bi.N
  omega
/-- types have been md -/
theorem BL.made {n : Nat} {new : List Nat} (h : BL K P s w bb md) (m : Made K s w bb md n s' new w') : BL K P s' w' bb (md ++ new) :=
  ⟨m.bi, by
    obtain ⟨v, cs, h1, h2, h3, h4⟩ := h.nr
    obtain ⟨v', h5⟩ := Has.staB m.sta h1
    exact ⟨v', cs, by rw [m.gle.pk, m.gle.er]; exact h5, Has.sta0 m.sta (by decide) (by decide) h2, h3, by rw [m.gle.nm]; exact h4⟩, (h.er.sta m.sta (by omega)).gle m.gle, IIP.made h.ii m h.hN, h.prp.sta m.sta h.gN, h.gN, h.vd, h.wd⟩
theorem BL.clo (h : BL K P s w bb md) (lo : Nat) {hi : Nat} (hh : hi ≤ w.heap.size) : BL K P (s.clo lo hi) w bb md :=
  ⟨h.bi.clo lo hh, h.nr, h.er.gle (Gs.gle_seal ..), IIP.clo h.ii _ _, h.prp, h.gN, h.vd, h.wd⟩
/-- one more block is known -/
theorem BL.setG (h : BL K P s w bb md) {b : Nat} {t : Ty} (hn : s.g b = none) (hb : b < w.heap.size) (hN : K.N ≤ b) (ht : ¬ isIf t) : BL K P (s.set b t) w bb md :=
  ⟨h.bi.set hn hb, h.nr, h.er.gle (Gs.gle_set hn), fun c u hc => by
    replace hc : (if c = b then some t else s.g c) = some u := hc
    by_cases hcb : c = b
    · subst hcb
      simp only [if_true, Option.some.injEq] at hc
      subst hc
      exact ⟨hN, fun hu => absurd hu ht⟩
    · simp only [hcb, if_false] at hc
      obtain ⟨r1, r2⟩ := h.ii c u hc
      refine ⟨r1, fun hu => ?_⟩
      obtain ⟨p1, p2, p3⟩ := r2 hu
      exact ⟨p1, p2.gle (Gs.gle_set hn), p3.imp (fun k => k.gle (Gs.gle_set hn)) id⟩, h.prp, h.gN, h.vd, h.wd⟩
/-- only the row of names has turned -/
theorem sta_nb {cs : Array Value} {k : Nat} {v : Value} (hN : K.N ≤ K.nb) (hcs : Has w K.nb (.cells cs tTY)) (u : Upd w K.nb (.cells (cs.setIfInBounds k v) tTY) w') : Sta K 2 w w' := .of_upd hcs u hN ⟨by simp, fun i hi => by
  unfold mc at hi
  simp at hi⟩
/-- one more name -/
theorem BL.setNm (h : BL K P s w bb md) {k : Nat} {v : Value} (hk : k < K.D.length) (hn : s.nm k = none) (hv : IsI v) {cs : Array Value} (hcs : Has w K.nb (.cells cs tTY)) (u : Upd w K.nb (.cells (cs.setIfInBounds k v) tTY) w') : BL K P (s.setNm k v) w' bb md := by
  have x : Sta K 2 w w' := sta_nb h.bi.nbN hcs u
  have hk' : ∀ {d : Nat} {cs : Array Value} {t : TypeId}, t ≠ tTY → Has w d (.cells cs t) → Has w' d (.cells cs t) := fun ht hh => ⟨(u.oth _ (Has.tne hh hcs ht)).trans hh.at_⟩
  have l : s.sle (s.setNm k v) := Gs.sle_setNm hn
  obtain ⟨v0, cs0, h1, h2, h3, h4⟩ := h.nr
  have e0 := h2.at_.symm.trans hcs.at_
  simp only [Option.some.injEq, Obj.cells.injEq, and_true] at e0
  subst e0
  have h4' : ∀ i u, (s.setNm k v).nm i = some u → (cs0.setIfInBounds k v)[i]? = some u := fun i u' hi => by
    replace hi : (if i = k then some v else s.nm i) = some u' := hi
    by_cases hik : i = k
    · subst hik
      simp only [if_true, Option.some.injEq] at hi
      subst hi
      simp [h3, hk]
    · simp only [hik, if_false] at hi
      rw [Array.getElem?_setIfInBounds_ne (Ne.symm hik)]
      exact h4 i u' hi
  obtain ⟨na, nl, nc, vm, k1, k2, k3⟩ := h.bi.ex
  have e1 := k1.at_.symm.trans h1.at_
  simp only [Option.some.injEq, Obj.cells.injEq, and_true] at e1
  have e2 := congrArg Array.toList e1
  simp only [List.cons.injEq, and_true, true_and, Value.slice.injEq] at e2
  obtain ⟨⟨e3, e4, e5⟩, e6⟩ := e2
  subst e3 e4 e5 e6
  have how : Own w' K.N tPI 1 vm (md.map fun b => [pt b]) := k2.upd u (Own.ne k2 hcs (by decide))
  refine ⟨⟨h.bi.N, h.bi.nbN, by rw [u.size]; exact h.bi.nbL, fun n hn' => ?_, h.bi.er, fun i u' hi => ?_, fun b t hb => by rw [u.size]; exact h.bi.gl b t hb, fun d hd => by rw [u.size]; exact h.bi.sll d hd, fun b hb => (h.bi.kn b hb).map (fun _ _ hr => (hr.sta x (by omega)).sle l) (fun _ _ h => h), some ⟨K.nb, 0, none⟩, K.D.length, K.D.length, vm, hk' (by decide) h1, how, fun i u' hi => ⟨_, rfl, ?_, u.has, h4' i u' hi⟩⟩,
    ⟨vm, _, hk' (by decide) h1, u.has, by simp [h3], h4'⟩, (h.er.sta x (by omega)).sle l, fun c t hc => ?_, h.prp.sta x h.gN, h.gN, h.vd, h.wd⟩
  · obtain ⟨c, y, q1, q2⟩ := h.bi.pkg n hn'
    exact ⟨c, y, q1, Has.sta x q2⟩
  · replace hi : (if i = k then some v else s.nm i) = some u' := hi
    by_cases hik : i = k
    · simp only [hik, if_true, Option.some.injEq] at hi
      subst hi
      exact hv
    · simp only [hik, if_false] at hi
      exact h.bi.nm i u' hi
  · have h5 := h4' i u' hi
    have h6 := (Array.getElem?_eq_some_iff.1 h5).1
    simpa [h3] using h6
  · obtain ⟨r1, r2⟩ := h.ii c t hc
    refine ⟨r1, fun hu => ?_⟩
    obtain ⟨p1, p2, p3⟩ := r2 hu
    refine ⟨p1, (p2.sta x (by omega)).sle l, p3.imp (fun q => (q.sta x (by omega)).sle l) fun q => ⟨q.1, ?_⟩⟩
    have key : ∀ ts, IfT w c ts → IfT w' c ts := fun ts ⟨ma, mn, mc, ea, en, ec, h⟩ => ⟨ma, mn, mc, ea, en, ec, hk' (by decide) h⟩
    rcases q.2 with q | ⟨⟨tb, v, q1, q2, a, c', tb', q3, q4, q5⟩, q6⟩
    · exact .inl (key _ q)
    · exact .inr ⟨⟨tb, v, key _ q1, hk' (by decide) q2, a, c', tb', q3, fun i hi => by
        obtain ⟨b, cs, s1, s2, s3⟩ := q4 i hi
        exact ⟨b, cs, s1, hk' (by decide) s2, s3⟩, hk' (by decide) q5⟩, q6⟩
end

/-! ### Sums of sizes -/
theorem wtD_app (A B : List De) : wtD (A ++ B) = wtD A + wtD B := by unfold wtD; rw [List.map_append, List.sum_append]
theorem wtD_take {D : List De} {i : Nat} {e : De} (h : D[i]? = some e) : wtD (D.take i) + wtDe e = wtD (D.take (i + 1)) := by
  rw [List.take_add_one, h, Option.toList_some, wtD_app]
  unfold wtD
  simp
theorem wtD_le (D : List De) (i : Nat) : wtD (D.take i) ≤ wtD D := by
  have := wtD_app (D.take i) (D.drop i)
  rw [List.take_append_drop] at this
  omega
end Go.Proofs.YtpiegpegjbmlkaaGreatDoor
namespace Go.Proofs.YtpiegpegjbmlkaaGreatDoor
open Go Go.Kd
set_option maxRecDepth 100000

theorem c_samePkg (c : Nat) (pa px : ByteArray) (w : World) (h : Has w c (.cells #[.string pa, .string px] tPK)) : Calls Tryz.prog 124 #[pt c, pt c] w (Ret fun r w' => r = .bool true ∧ Ext w w') := by
  refine W.enter (args := [pt c, pt c]) Tryz.func124 rfl Tryz.ntmps124 rfl rfl ?_
  refine zst ?_
  refine W.regD [(0, .q), (1, .q), (2, .q), (3, .q), (4, .q), (5, .q), (6, .q), (7, .q), (8, .q), (9, .q)] (by kernel_rfl) (by kernel_rfl) rfl ?_
  intro w2 x2 _
  have h2 := h.ext' x2
  refine zsd ?_
  refine zst ?_
  exact fin1 (.inl rfl) rfl rfl ⟨by rw [beq_self_eq_true], x2⟩
theorem c_methodIndex (b : Nat) (obj u : Value) (a : Option Addr) (n c : Nat) (f : Nat → Nat) (nm : ByteArray) (w : World) (h : NamV w b obj u (.slice a n c)) (hr : RowP w tFN a n f) (hf : ∀ i, i < n → ∃ pk nm' sv, FuncV w (f i) pk nm' sv ∧ nm'.toList ≠ nm.toList) (hu : nm.toList ≠ us) (hn : n ≤ 1073741824) :
    Calls Tryz.prog 126 #[pt b, .string nm, .bool false] w (Ret fun r w' => r = .int .i64 (-1) ∧ w = w') := by
  have h' : Has w b (.cells (nmc obj false 0 15 u u (.slice a n c)) tNM) := h
  refine W.enter (args := [pt b, .string nm, .bool false]) Tryz.func126 rfl Tryz.ntmps126 rfl rfl ?_
  refine zst ?_
  rw [us_bytes, show (nm.toList == us) = false from by rw [beq_eq_false_iff_ne]; exact hu]
  refine zst ?_
  refine W.loop (σ := Nat) (fun k => [(38, .int .i64 k), (37, .int .i64 n), (36, .slice a n c), (1, .string nm), (0, pt b)])
    (fun k D' wk => D' = [] ∧ wk = w ∧ k ≤ n) (fun k => n - k) 0 ⟨rfl, rfl, Nat.zero_le _⟩ (by exact sub_of ⟨rfl, rfl, rfl, rfl, rfl, trivial⟩) ?_
  rintro k D' wk ⟨rfl, rfl, hk⟩
  refine zst ?_
  by_cases hlt : k < n
  · rw [show decide ((k : Int) < (n : Int)) = true by simpa using hlt]
    obtain ⟨rb, rfl, hrc⟩ := hr.cell hlt
    obtain ⟨pk, nm', sv, hfk, hne⟩ := hf k hlt
    have hfk' : Has wk (f k) (.cells #[.int .i64 0, pk, .string nm', sv, .bool false, .bool false] tFU) := hfk
    refine zst ?_
    refine WU.yld rfl rfl rfl (yld_load_c rfl hrc) ?_
    refine zst ?_
    rw [show (nm'.toList == nm.toList) = false from by rw [beq_eq_false_iff_ne]; exact hne]
    refine zst ?_
    exact ⟨k + 1, by omega, ⟨rfl, rfl, by omega⟩, sub_of ⟨rfl, rfl, rfl, rfl, rfl, trivial⟩⟩
  · rw [show decide ((k : Int) < (n : Int)) = false by simpa using hlt]
    refine zst ?_
    exact fin1 (.inl rfl) rfl rfl ⟨rfl, rfl⟩
/-- two blocks alone have turned: a named type's, and the row that it owns -/
structure Add (w w' : World) (b : Nat) (v v' : Value) : Prop where
  os : w'.os = w.os
  tape : w'.tape = w.tape
  output : w'.output = w.output
  size : w.heap.size ≤ w'.heap.size
  oth : ∀ (d : Nat), d < w.heap.size → d ≠ b → v.ownBlock ≠ some d → w'.heap[d]? = w.heap[d]?
  own : ∀ g, v'.ownBlock = some g → v.ownBlock = some g ∨ w.heap.size ≤ g
set_option maxHeartbeats 1000000 in
theorem c_AddMethod (b f ob pc base : Nat) (u ms sv : Value) (nm fm pa px : ByteArray) (tv : Value) (fbs : List Nat) (w : World) (hn : NamV w b (pt ob) u ms) (ht : TnV w ob (pt pc) nm tv) (hf : FuncV w f (pt pc) fm sv) (hp : Has w pc (.cells #[.string pa, .string px] tPK))
    (ho : Own w base tFN 1 ms (fbs.map fun b => [pt b])) (hd : ∀ (i : Nat) g, fbs[i]? = some g → ∃ pk nm' sv, FuncV w g pk nm' sv ∧ nm'.toList ≠ fm.toList) (hu : fm.toList ≠ us) (hl : fbs.length ≤ 1073741824) (hb : base ≤ w.heap.size) :
    Calls Tryz.prog 83 #[pt b, pt f] w (Ret fun _ w' => ∃ ms', NamV w' b (pt ob) u ms' ∧ Own w' base tFN 1 ms' ((fbs ++ [f]).map fun b => [pt b]) ∧ Add w w' b ms ms') := by
  have hn' : Has w b (.cells (nmc (pt ob) false 0 15 u u ms) tNM) := hn
  have ht' : Has w ob (.cells #[.int .i64 0, pt pc, .string nm, tv] tTN) := ht
  have hf' : Has w f (.cells #[.int .i64 0, pt pc, .string fm, sv, .bool false, .bool false] tFU) := hf
  have how := ho
  rw [map_getD] at how
  obtain ⟨a, c, rfl, hr⟩ := Own.row1 how
  refine W.enter (args := [pt b, pt f]) Tryz.func83 rfl Tryz.ntmps83 rfl rfl ?_
  refine zst ?_
  refine W.regD [(0, .q), (1, .q), (2, .q), (3, .q), (4, .q), (5, .q), (6, .q), (7, .q), (8, .q), (9, .q), (10, .q), (11, .q), (12, .q), (13, .l), (14, .l)] (by kernel_rfl) (by kernel_rfl) rfl ?_
  intro w1 x1 _
  have hn1 := hn'.ext' x1
  have ht1 := ht'.ext' x1
  have hf1 := hf'.ext' x1
  refine zsd ?_
  refine WD.stp rfl rfl rfl rfl (stp_call rfl (c_samePkg pc pa px w1 (hp.ext' x1))) ?_
  rintro _ w2 ⟨rfl, x2⟩
  refine ⟨by first | assumption | exact Ext.rfl' _ | infer_instance, ?_⟩
  refine zsd ?_
  refine WD.stp rfl rfl rfl rfl (stp_call rfl (c_assert w2)) ?_
  rintro _ _ rfl
  refine ⟨Ext.rfl' _, ?_⟩
  refine zsd ?_
  have x := x1.trans x2
  have hn2 : NamV w2 b (pt ob) u (.slice a fbs.length c) := hn'.ext' x
  have hn2' := hn'.ext' x
  have hf2 := hf'.ext' x
  refine zst ?_
  refine WU.stp rfl rfl rfl (stp_call rfl (c_unpack b _ _ _ w2 hn2)) ?_
  rintro _ _ ⟨rfl, rfl⟩
  refine zst ?_
  refine WU.stp rfl rfl rfl (stp_call rfl (c_methodIndex b (pt ob) u a fbs.length c (fun i => fbs.getD i 0) fm w2 hn2 (fun i hi => by
        obtain ⟨g, cs, k1, _, _, k4, k5⟩ := hr i hi
        exact ⟨g, cs, k1, k4.ext' x, k5⟩) (fun i hi => by
        obtain ⟨pk, nm', sv', k1, k2⟩ := hd i (fbs.getD i 0) (by rw [List.getD_eq_getElem?_getD, List.getElem?_eq_getElem hi]; rfl)
        exact ⟨pk, nm', sv', k1.ext' x, k2⟩) hu hl)) ?_
  rintro _ _ ⟨rfl, rfl⟩
  refine zst ?_
  have ho2 := ho.ext x
  refine WU.stp rfl rfl rfl (stp_buildSlice rfl rfl rfl rfl rfl) ?_
  rintro _ w3 ⟨b3, rfl, n3⟩
  have ho3 := ho2.ext n3.ext
  have hn3 := hn2'.ext' n3.ext
  have z2 := x.size
  have z3 := n3.ext.size
  refine WU.stp rfl rfl rfl (stp_append1 (el := tFN) rfl rfl ho3 (Cells.has n3.has) rfl rfl (by omega) (by simp [Value.oneCell']) (by rw [List.length_map]; exact hl) (by omega)) ?_
  rintro v' w4 ⟨o4, a4, g4⟩
  have hn4 : Has w4 b (.cells (nmc (pt ob) false 0 15 u u (.slice a fbs.length c)) tNM) := Has.app (el := tFN) a4 ho3 hn3 (by decide)
  obtain ⟨sa, scp, hsh, _, _⟩ := o4.shape
  subst hsh
  refine zst ?_
  refine WU.stp0 rfl rfl (stp_store_cell rfl rfl rfl rfl) ?_
  rintro _ w5 u5
  refine zst ?_
  have hown : ∀ k, (Value.slice sa _ scp).ownBlock = some k → k ≠ b := fun k hk => by
    obtain ⟨cs, k1⟩ := Own.cellsOf o4 k hk
    exact Has.tne k1 hn4 (by decide)
  refine fin0 (.inr rfl) rfl ⟨_, u5.has, by rw [List.map_append]; exact o4.upd u5 hown, ⟨?_, ?_, ?_, ?_, fun d hd hne hno => ?_, fun g hg => ?_⟩⟩
  · exact u5.os.trans (a4.os.trans (n3.ext.below.os.trans x.below.os))
  · exact u5.tape.trans (a4.tape.trans (n3.ext.below.tape.trans x.below.tape))
  · exact u5.output.trans (a4.output.trans (n3.ext.below.output.trans x.below.output))
  · have := a4.size
    have := u5.size
    omega
  · rw [u5.oth d hne, a4.block d (by omega) fun e => hno e.symm, n3.ext.below.block d (by omega), x.below.block d hd]
  · rcases g4 g hg with k | k
    · exact .inl k
    · exact .inr (by omega)
end Go.Proofs.YtpiegpegjbmlkaaGreatDoor
namespace Go.Proofs.YtpiegpegjbmlkaaGreatDoor
open Go Go.Kd
set_option maxRecDepth 100000

abbrev tPT : Nat := 201
abbrev tPP : Nat := 128
/-- a method of a declared type: block f; b: the type's block -/
def MeO (K : Cfg) (s : Gs) (w : World) (b : Nat) (e : De) (m : Me) (f : Nat) : Prop := ∃ sb rv ps rs pkv rt kd, FuncV w f (s.pk e.pkg) m.fn.name (.iface tSP (pt sb)) ∧ RT K s w s.sl (.iface tSP (pt sb)) m.fn ∧ Has w sb (.cells #[pt rv, .pointer none, ps, rs, .bool m.fn.vr] tSG) ∧ VarV w rv pkv eB rt kd false ∧
  (m.ptr = false → rt = .iface tNP (pt b)) ∧ (m.ptr = true → ∃ pb, rt = .iface tPP (pt pb) ∧ Has w pb (.cells #[.iface tNP (pt b)] tPT))
theorem Has.staS {K : Cfg} {l : Nat} {w w' : World} {b : Nat} {cs : Array Value} (x : Sta K l w w') (hl : l ≤ 2) (h : Has w b (.cells cs tSG)) : Has w' b (.cells cs tSG) := by
  obtain ⟨cs', k1, k2⟩ := x.has (by decide) h
  have : cs' = cs := by
    apply Array.ext_getElem?
    intro i
    exact k2.cell i (by
      unfold mc
      simp only [show ¬ tSG = tTY from by decide, show ¬ tSG = tIF from by decide, if_false, if_true]
      simp
      omega)
  rw [← this]; exact k1
theorem MeO.sta {K : Cfg} {l : Nat} {s : Gs} {w w' : World} (x : Sta K l w w') (hl : l ≤ 2) {b : Nat} {e : De} {m : Me} {f : Nat} (h : MeO K s w b e m f) : MeO K s w' b e m f := by
  obtain ⟨sb, rv, ps, rs, pkv, rt, kd, h1, h2, h3, h4, h5, h6⟩ := h
  exact ⟨sb, rv, ps, rs, pkv, rt, kd, h1.sta x, h2.sta x (by omega), Has.staS x hl h3, h4.sta x, h5, fun hm => by
    obtain ⟨pb, k1, k2⟩ := h6 hm
    exact ⟨pb, k1, Has.sta x k2⟩⟩
theorem MeO.sle {K : Cfg} {s s' : Gs} {w : World} (l : s.sle s') {b : Nat} {e : De} {m : Me} {f : Nat} (h : MeO K s w b e m f) : MeO K s' w b e m f := by
  obtain ⟨sb, rv, ps, rs, pkv, rt, kd, h1, h2, h3, h4, h5, h6⟩ := h
  exact ⟨sb, rv, ps, rs, pkv, rt, kd, by rw [l.le.pk]; exact h1, h2.sle l, h3, h4, h5, h6⟩
theorem NamV.sta1 {K : Cfg} {l : Nat} {w w' : World} (x : Sta K l w w') (hl : l ≤ 1) {b : Nat} {obj u ms : Value} (h : NamV w b obj u ms) : NamV w' b obj u ms := by
  obtain ⟨cs', k1, k2⟩ := x.has (by decide) h
  have : cs' = nmc obj false 0 15 u u ms := by
    apply Array.ext_getElem?
    intro i
    exact k2.cell i (by
      unfold mc
      simp only [show ¬ tNM = tTY from by decide, show ¬ tNM = tIF from by decide, show ¬ tNM = tSG from by decide, if_false, if_true]
      rw [decide_eq_false (by omega)]
      rfl)
  unfold NamV
  rw [← this]; exact k1
/-- the methods that the declared types have so far -/
structure MsI (K : Cfg) (s : Gs) (w : World) (base : Nat) (cnt : Nat → Nat) (msv : Nat → Value) (mfb : Nat → List Nat) : Prop where
  nam : ∀ (n : Nat) e, K.D[n]? = some e → e.al = false → ∃ b ob T ub, s.nm n = some (.iface tNP (pt b)) ∧ s.g b = some (tN n) ∧ NamV w b (pt ob) (.iface T (pt ub)) (msv n) ∧ TnV w ob (s.pk e.pkg) e.name (.iface tNP (pt b)) ∧ Own w base tFN 1 (msv n) ((mfb n).map fun b => [pt b]) ∧ (mfb n).length = cnt n ∧ cnt n ≤ e.ms.length ∧
    ∀ (q : Nat) m f, e.ms[q]? = some m → (mfb n)[q]? = some f → MeO K s w b e m f
  dis : ∀ n n' g, n ≠ n' → (msv n).ownBlock = some g → (msv n').ownBlock ≠ some g
  sl : ∀ n d, s.sl d → (msv n).ownBlock ≠ some d
  lt : ∀ n g, (msv n).ownBlock = some g → base ≤ g ∧ g < w.heap.size
theorem MsI.sta {K : Cfg} {l : Nat} {s : Gs} {w w' : World} (x : Sta K l w w') (hl : l ≤ 1) {base : Nat} {cnt : Nat → Nat} {msv : Nat → Value} {mfb : Nat → List Nat} (h : MsI K s w base cnt msv mfb) : MsI K s w' base cnt msv mfb := ⟨fun n e he ha => by
  obtain ⟨b, ob, T, ub, h1, h2, h3, h4, h5, h6, h7, h8⟩ := h.nam n e he ha
  exact ⟨b, ob, T, ub, h1, h2, h3.sta1 x hl, h4.sta x, Own.sta x h5, h6, h7, fun q m f k1 k2 => (h8 q m f k1 k2).sta x (by omega)⟩, h.dis, h.sl, fun n g hg => ⟨(h.lt n g hg).1, Nat.lt_of_lt_of_le (h.lt n g hg).2 x.size⟩⟩
theorem MsI.ext {K : Cfg} {s : Gs} {w w' : World} (x : Ext w w') {base : Nat} {cnt : Nat → Nat} {msv : Nat → Value} {mfb : Nat → List Nat} (h : MsI K s w base cnt msv mfb) : MsI K s w' base cnt msv mfb := h.sta (l := 0) (.of_ext x) (by omega)
theorem MsI.gle {K : Cfg} {s s' : Gs} {w : World} (l : s.gle s') {base : Nat} {cnt : Nat → Nat} {msv : Nat → Value} {mfb : Nat → List Nat} (hs : ∀ d, s'.sl d → s.sl d ∨ ∀ n, (msv n).ownBlock ≠ some d) (h : MsI K s w base cnt msv mfb) : MsI K s' w base cnt msv mfb := ⟨fun n e he ha => by
  obtain ⟨b, ob, T, ub, h1, h2, h3, h4, h5, h6, h7, h8⟩ := h.nam n e he ha
  exact ⟨b, ob, T, ub, by rw [l.nm]; exact h1, l.g _ _ h2, h3, by rw [l.pk]; exact h4, h5, h6, h7, fun q m f k1 k2 => (h8 q m f k1 k2).sle l.sle⟩, h.dis, fun n d hd => (hs d hd).elim (h.sl n d) fun k => k n, h.lt⟩

/-! ### One more method -/
section
variable {K : Cfg} {s : Gs} {w w' : World} {b base : Nat} {ob u ms ms' : Value} {fbs : List Nat}
/-- named type b has one more method -/
structure AddC (K : Cfg) (w w' : World) (b base : Nat) (ob u ms ms' : Value) (fbs : List Nat) : Prop where
  hb : NamV w b ob u ms
  hb' : NamV w' b ob u ms'
  ho : Own w base tFN 1 ms (fbs.map fun b => [pt b])
  ad : Add w w' b ms ms'
  hu : ∃ T ub, u = .iface T (pt ub)
theorem AddC.tr (h : AddC K w w' b base ob u ms ms' fbs) {p : Nat → Prop} (hp : ∀ d, p d → ms.ownBlock ≠ some d) : Tr K w w' p p := ⟨fun d cs t hpd _ hd => by
  refine ⟨hpd, ?_⟩
  by_cases hdb : d = b
  · subst hdb
    have e := hd.at_.symm.trans h.hb.at_
    simp only [Option.some.injEq, Obj.cells.injEq, and_true] at e
    obtain ⟨rfl, rfl⟩ := e
    obtain ⟨T, ub, rfl⟩ := h.hu
    exact ⟨_, h.hb', rfl, fun i hi => by
      unfold mc at hi
      simp only [show ¬ tNM = tTY from by decide, show ¬ tNM = tIF from by decide, show ¬ tNM = tSG from by decide, if_false, if_true] at hi
      simp [nilI] at hi
      match i, hi with
      | 0, _ | 1, _ | 2, _ | 3, _ | 4, _ | 5, _ | 6, _ | 7, _ | 8, _ => rfl
      | i + 10, _ => rfl⟩
  · exact ⟨cs, ⟨(h.ad.oth d hd.lt hdb (hp d hpd)).trans hd.at_⟩, .rfl' ..⟩⟩
theorem AddC.has (h : AddC K w w' b base ob u ms ms' fbs) {d : Nat} {cs : Array Value} {t : TypeId} (h1 : t ≠ tNM) (h2 : t ≠ tFN) (hd : Has w d (.cells cs t)) : Has w' d (.cells cs t) :=
  ⟨(h.ad.oth d hd.lt (Has.tne hd h.hb h1) fun e => Own.ne h.ho hd h2 d e rfl).trans hd.at_⟩
theorem AddC.nam (h : AddC K w w' b base ob u ms ms' fbs) {c : Nat} {ob2 u2 ms2 : Value} (hc : NamV w c ob2 u2 ms2) : ∃ ms3, NamV w' c ob2 u2 ms3 ∧ (c ≠ b → ms3 = ms2) := by
  by_cases hcb : c = b
  · subst hcb
    have e := hc.at_.symm.trans h.hb.at_
    simp only [Option.some.injEq, Obj.cells.injEq, and_true] at e
    have e2 := congrArg Array.toList e
    simp only [List.cons.injEq, and_true, true_and] at e2
    obtain ⟨rfl, rfl, _⟩ := e2
    exact ⟨ms', h.hb', fun k => absurd rfl k⟩
  · exact ⟨ms2, ⟨(h.ad.oth c hc.lt hcb fun e => Own.ne h.ho hc (by decide) c e rfl).trans hc.at_⟩, fun _ => rfl⟩
theorem AddC.fresh (h : AddC K w w' b base ob u ms ms' fbs) {c : Nat} {t : Ty} (hf : Fresh w c t) : Fresh w' c t := by
  have key : ∀ ts, IfT w c ts → IfT w' c ts := fun ts ⟨ma, mn, mc, ea, en, ec, hh⟩ => ⟨ma, mn, mc, ea, en, ec, h.has (by decide) (by decide) hh⟩
  rcases hf with hf | ⟨⟨tb, v, h1, h2, a, c', tb', h3, h4, h5⟩, h6⟩
  · exact .inl (key _ hf)
  · exact .inr ⟨⟨tb, v, key _ h1, h.has (by decide) (by decide) h2, a, c', tb', h3, fun i hi => by
      obtain ⟨b, cs, k1, k2, k3⟩ := h4 i hi
      exact ⟨b, cs, k1, h.has (by decide) (by decide) k2, k3⟩, h.has (by decide) (by decide) h5⟩, h6⟩
theorem BL.add {P : Nat → Prop} {bb : Nat} {md : List Nat} (h : BL K P s w bb md) (a : AddC K w w' b base ob u ms ms' fbs) (hP : ∀ d, P d → ms.ownBlock ≠ some d) (hsl : ∀ d, s.sl d → ms.ownBlock ≠ some d) (hbN : K.N ≤ b) (hbase : K.N ≤ base) : BL K P s w' bb md :=
  ⟨h.bi.keep a.ad.size (fun d cs t hd ht => (by
    have h1 := a.has (d := d) (cs := cs) (t := t) (by rcases ht with rfl | ⟨rfl, _⟩ | rfl | rfl <;> decide) (by rcases ht with rfl | ⟨rfl, _⟩ | rfl | rfl <;> decide) ⟨hd⟩
    exact h1.at_.trans hd.symm)) fun _ _ hr => hr.tr (a.tr hsl), by
    obtain ⟨v, cs, h1, h2, h3, h4⟩ := h.nr
    exact ⟨v, cs, a.has (by decide) (by decide) h1, a.has (by decide) (by decide) h2, h3, h4⟩, by
    obtain ⟨b2, ob2, u2, ms2, nm, h1, h2, h3, h4, h5⟩ := h.er
    obtain ⟨ms3, h6, _⟩ := a.nam h4
    exact ⟨b2, ob2, u2, ms3, nm, h1, h2, a.has (by decide) (by decide) h3, h6, h5.tr (a.tr hsl)⟩, fun c t hc => by
    obtain ⟨r1, r2⟩ := h.ii c t hc
    refine ⟨r1, fun hu => ?_⟩
    obtain ⟨p1, p2, p3⟩ := r2 hu
    exact ⟨p1, p2.tr (a.tr hsl), p3.imp (fun k => k.tr (a.tr hP) (a.tr hsl)) fun k => ⟨k.1, a.fresh k.2⟩⟩, h.prp.same (a.ad.oth gP h.prp.lt (by have := h.gN; omega) fun e => by have := (a.ho.lt gP e).1; have := h.gN; omega), h.gN, h.vd, h.wd⟩
theorem DclI.add (h : DclI K s w K.D.length) (a : AddC K w w' b base ob u ms ms' fbs) (hsl : ∀ d, s.sl d → ms.ownBlock ≠ some d) : DclI K s w' K.D.length := fun n e he => by
  have hn := h n e he
  rw [decide_eq_true (List.getElem?_eq_some_iff.1 he).1] at hn ⊢
  cases hn with
  | def1 b2 ob2 u2 ms2 y h1 h2 h3 h4 h5 h6 h7 h8 =>
    obtain ⟨ms3, h9, _⟩ := a.nam h5
    exact .def1 b2 ob2 u2 ms3 y h1 h2 h3 (a.has (by decide) (by decide) h4) h9 (h6.tr (a.tr hsl)) h7 h8
  | al1 b2 ob2 v v1 y h1 h2 h3 h4 h5 h6 h7 h8 h9 h10 h11 => exact .al1 b2 ob2 v v1 y h1 h2 (a.has (by decide) (by decide) h3) (a.has (by decide) (by decide) h4) (h5.tr (a.tr hsl)) h6 (h7.tr (a.tr hsl)) h8 h9 h10 h11
theorem MeO.add (a : AddC K w w' b base ob u ms ms' fbs) (hsl : ∀ d, s.sl d → ms.ownBlock ≠ some d) {b2 : Nat} {e : De} {m : Me} {f : Nat} (h : MeO K s w b2 e m f) : MeO K s w' b2 e m f := by
  obtain ⟨sb, rv, ps, rs, pkv, rt, kd, h1, h2, h3, h4, h5, h6⟩ := h
  exact ⟨sb, rv, ps, rs, pkv, rt, kd, a.has (by decide) (by decide) h1, h2.tr (a.tr hsl), a.has (by decide) (by decide) h3, a.has (by decide) (by decide) h4, h5, fun hm => by
    obtain ⟨pb, k1, k2⟩ := h6 hm
    exact ⟨pb, k1, a.has (by decide) (by decide) k2⟩⟩
/-- declared type i has one more method -/
theorem MsI.add {cnt : Nat → Nat} {msv : Nat → Value} {mfb : Nat → List Nat} (h : MsI K s w base cnt msv mfb) {i : Nat} {e : De} (he : K.D[i]? = some e) (hi : s.nm i = some (.iface tNP (pt b))) (hgb : s.g b = some (tN i)) (a : AddC K w w' b base ob u (msv i) ms' (mfb i)) {f : Nat} {m : Me} (hm : e.ms[cnt i]? = some m)
    (ho' : Own w' base tFN 1 ms' (((mfb i) ++ [f]).map fun b => [pt b])) (hf : MeO K s w b e m f) (hszs : ∀ d, s.sl d → d < w.heap.size) : MsI K s w' base (fun n => if n = i then cnt i + 1 else cnt n) (fun n => if n = i then ms' else msv n) (fun n => if n = i then mfb i ++ [f] else mfb n) := by
  have hsl := h.sl i
  refine ⟨fun n e2 he2 ha2 => ?_, fun n n' g hne hg hg' => ?_, fun n d hd hg => ?_, fun n g hg => ?_⟩
  · obtain ⟨b2, ob2, T, ub, h1, h2, h3, h4, h5, h6, h7, h8⟩ := h.nam n e2 he2 ha2
    by_cases hni : n = i
    · subst hni
      rw [he] at he2
      cases he2
      rw [hi] at h1
      cases h1
      obtain ⟨ms3, k1, _⟩ := a.nam h3
      have hlt := (List.getElem?_eq_some_iff.1 hm).1
      have e3 := k1.at_.symm.trans a.hb'.at_
      simp only [Option.some.injEq, Obj.cells.injEq, and_true] at e3
      have e4 := congrArg Array.toList e3
      simp only [List.cons.injEq, and_true, true_and] at e4
      obtain ⟨e5, e6, _, e7⟩ := e4
      simp only [if_true]
      refine ⟨b, ob2, T, ub, hi, h2, by rw [← e7]; exact k1, a.has (by decide) (by decide) h4, ho', by rw [List.length_append, h6]; rfl, by omega, fun q m' f' hq hf' => ?_⟩
      by_cases hqc : q < cnt n
      · rw [List.getElem?_append_left (by omega)] at hf'
        exact (h8 q m' f' hq hf').add a hsl
      · have hq2 : q = cnt n := by
          have := (List.getElem?_eq_some_iff.1 hf').1
          rw [List.length_append, h6] at this
          simp at this
          omega
        subst hq2
        rw [List.getElem?_append_right (by omega), h6, Nat.sub_self] at hf'
        simp at hf'
        subst hf'
        rw [hm] at hq
        cases hq
        exact hf.add a hsl
    · simp only [hni, if_false]
      have hb2 : b2 ≠ b := fun e => by
        subst e
        rw [hgb] at h2
        exact hni (tN_inj (Option.some.inj h2)).symm
      obtain ⟨ms3, k1, k2⟩ := a.nam h3
      rw [k2 hb2] at k1
      exact ⟨b2, ob2, T, ub, h1, h2, k1, a.has (by decide) (by decide) h4, h5.kept fun g hg => a.ad.oth g (h5.lt g hg).2 (fun e => by
        obtain ⟨cs, q1⟩ := Own.cellsOf h5 g hg
        exact Has.tne q1 a.hb (by decide) e) fun e => h.dis n i g hni hg e, h6, h7, fun q m' f' hq hf' => (h8 q m' f' hq hf').add a hsl⟩
  · by_cases hni : n = i
    · simp only [hni, if_true] at hg
      have hn' : n' ≠ i := fun e => hne (by rw [hni, e])
      simp only [hn', if_false] at hg'
      rcases a.ad.own g hg with k | k
      · exact h.dis i n' g (Ne.symm hn') k hg'
      · have := (h.lt n' g hg').2
        omega
    · simp only [hni, if_false] at hg
      by_cases hn' : n' = i
      · simp only [hn', if_true] at hg'
        rcases a.ad.own g hg' with k | k
        · exact h.dis n i g hni hg k
        · have := (h.lt n g hg).2
          omega
      · simp only [hn', if_false] at hg'
        exact h.dis n n' g hne hg hg'
  · by_cases hni : n = i
    · simp only [hni, if_true] at hg
      rcases a.ad.own d hg with k | k
      · exact h.sl i d hd k
      · have := hszs d hd
        omega
    · simp only [hni, if_false] at hg
      exact h.sl n d hd hg
  · by_cases hni : n = i
    · simp only [hni, if_true] at hg
      exact ho'.lt g hg
    · simp only [hni, if_false] at hg
      exact ⟨(h.lt n g hg).1, Nat.lt_of_lt_of_le (h.lt n g hg).2 a.ad.size⟩
end
end Go.Proofs.YtpiegpegjbmlkaaGreatDoor
namespace Go.Kd
theorem W.join {P : Program} {n : Nat} {Q : Post} {D : List Deferred} {e : Env} {w : World} {x : Code} {K : List Deferred → Env → World → Prop} (I : Env → World → Prop) (h1 : W P n x (fun x' D' e' w' => x' = .normal ∧ D' = [] ∧ I e' w') D e w) (h2 : ∀ e' w', I e' w' → K [] e' w') : W P n x (thn K Q) D e w :=
  h1.mono fun x' D' e' w' ⟨hx, hD, hI⟩ => by subst hx hD; exact h2 e' w' hI
end Go.Kd
namespace Go.Proofs.YtpiegpegjbmlkaaGreatDoor
open Go Go.Kd
set_option maxRecDepth 100000

theorem wtM_take {l : List Me} {j : Nat} {m : Me} (h : l[j]? = some m) : wtM (l.take j) + wt m.fn = wtM (l.take (j + 1)) := by
  rw [List.take_add_one, h, Option.toList_some]
  unfold wtM
  simp
theorem wtM_le (l : List Me) (j : Nat) : wtM (l.take j) ≤ wtM l := by
  have : wtM (l.take j) + wtM (l.drop j) = wtM l := by
    conv => rhs; rw [← List.take_append_drop j l]
    unfold wtM
    rw [List.map_append, List.sum_append]
  omega
theorem Below.sta {K : Cfg} {l : Nat} {w0 w w' : World} (h : RowKit.Below K.N w0 w) (x : Sta K l w w') (hN : K.N ≤ w.heap.size) : RowKit.Below K.N w0 w' := h.trans ⟨x.os, x.tape, x.output, x.size, fun d hd => x.old d hd (by omega)⟩
theorem Below.ext' {N : Nat} {w0 w w' : World} (h : RowKit.Below N w0 w) (x : Ext w w') (hN : N ≤ w.heap.size) : RowKit.Below N w0 w' := bel_ext h x hN
/-- how many methods a declared type has -/
def lenM (D : List De) (n : Nat) : Nat := ((D[n]?).map fun e => e.ms.length).getD 0
theorem lenM_at {D : List De} {n : Nat} {e : De} (h : D[n]? = some e) : lenM D n = e.ms.length := by unfold lenM; rw [h]; rfl
/-- .. as far as they are made -/
def cntM (D : List De) (i j n : Nat) : Nat := if n < i then lenM D n else if n = i then j else 0
/-- the state when methods are declared -/
structure MSt (K : Cfg) (P : Nat → Prop) (s0 : Gs) (w0 : World) (bb base i j : Nat) (wk : World) (s : Gs) (made : List Nat) (msv : Nat → Value) (mfb : Nat → List Nat) : Prop where
  bel : RowKit.Below K.N w0 wk
  bl : BL K P s wk bb made
  dc : DclI K s wk K.D.length
  ms : MsI K s wk base (cntM K.D i j) msv mfb
  nm : s.nm = s0.nm
  bs : base ≤ wk.heap.size
section
variable {K : Cfg} {P : Nat → Prop} {s0 : Gs} {w0 wk w' : World} {bb base i j : Nat} {s : Gs} {md : List Nat} {msv : Nat → Value} {mfb : Nat → List Nat}
theorem MSt.ext (x : Ext wk w') (h : MSt K P s0 w0 bb base i j wk s md msv mfb) : MSt K P s0 w0 bb base i j w' s md msv mfb :=
  ⟨bel_ext h.bel x h.bl.hN, h.bl.ext x, h.dc.sta (l := 0) (.of_ext x) (by omega), h.ms.ext x, h.nm, Nat.le_trans h.bs x.size⟩
theorem MSt.made {s' : Gs} {n : Nat} {new : List Nat} (h : MSt K P s0 w0 bb base i j wk s md msv mfb) (m : Made K s wk bb md n s' new w') : MSt K P s0 w0 bb base i j w' (s'.clo wk.heap.size w'.heap.size) (md ++ new) msv mfb := by
  have hg : s.gle (s'.clo wk.heap.size w'.heap.size) := m.gle.trans (Gs.gle_seal ..)
  have hown : ∀ n d, wk.heap.size ≤ d → (msv n).ownBlock ≠ some d := fun n d hd e => by
    have := (h.ms.lt n d e).2
    omega
  exact ⟨Below.sta h.bel m.sta h.bl.hN, (h.bl.made m).clo _ (Nat.le_refl _), (h.dc.sta m.sta (by omega)).gle hg, (h.ms.sta m.sta (by omega)).gle hg fun d hd => hd.elim (fun hd => (m.sn d hd).imp id fun k n => hown n d k.1) fun k => .inr fun n => hown n d k.1, by
    show s'.nm = s0.nm
    rw [m.gle.nm]; exact h.nm, Nat.le_trans h.bs m.sta.size⟩
/-- one more method -/
theorem MSt.add {b ob f : Nat} {u ms' : Value} {e : De} {m : Me} (h : MSt K P s0 w0 bb base i j wk s md msv mfb) (he : K.D[i]? = some e) (hi : s.nm i = some (.iface tNP (pt b))) (hgb : s.g b = some (tN i)) (hm : e.ms[j]? = some m)
    (a : AddC K wk w' b base (pt ob) u (msv i) ms' (mfb i)) (ho' : Own w' base tFN 1 ms' (((mfb i) ++ [f]).map fun b => [pt b])) (hf : MeO K s wk b e m f) (hP : ∀ d, P d → d < base) (hbase : K.N ≤ base) :
    MSt K P s0 w0 bb base i (j + 1) w' s md (fun n => if n = i then ms' else msv n) (fun n => if n = i then mfb i ++ [f] else mfb n) := by
  have hsl : ∀ d, s.sl d → (msv i).ownBlock ≠ some d := h.ms.sl i
  have hbN : K.N ≤ b := (h.bl.ii b _ hgb).1
  have hPn : ∀ d, P d → (msv i).ownBlock ≠ some d := fun d hd e => by
    have := hP d hd
    have := (a.ho.lt d e).1
    omega
  have hN := h.bl.hN
  have hc : cntM K.D i j i = j := by unfold cntM; simp
  have h1 := h.ms.add he hi hgb a (by rw [hc]; exact hm) ho' hf h.bl.bi.sll
  have hce : (fun n => if n = i then cntM K.D i j i + 1 else cntM K.D i j n) = cntM K.D i (j + 1) := by
    funext n
    unfold cntM
    by_cases hni : n = i
    · subst hni; simp
    · simp [hni]
  rw [hce] at h1
  exact ⟨h.bel.trans ⟨a.ad.os, a.ad.tape, a.ad.output, a.ad.size, fun d hd => a.ad.oth d (by omega) (by omega) fun e => by have := (a.ho.lt d e).1; omega⟩, h.bl.add a hPn hsl hbN hbase, h.dc.add a hsl, h1, h.nm, Nat.le_trans h.bs a.ad.size⟩
end
theorem IIP.all {K : Cfg} {s : Gs} {w : World} {P : Nat → Prop} {made : List Nat} (h : IIP K s w P made) : II K s w made := fun c u hc => by
  obtain ⟨r1, r2⟩ := h c u hc
  refine ⟨r1, fun hu => ?_⟩
  obtain ⟨p1, p2, p3⟩ := r2 hu
  exact ⟨p1, p2, p3.imp (fun k => k.tr (.mono fun _ _ _ => trivial) (.mono fun _ _ h => h)) id⟩
theorem cntM_end {D : List De} {i : Nat} {e : De} (h : D[i]? = some e) : cntM D i e.ms.length = cntM D (i + 1) 0 := by
  funext n
  unfold cntM
  by_cases h1 : n < i
  · rw [if_pos h1, if_pos (by omega)]
  · by_cases h2 : n = i
    · subst h2; rw [if_neg (by omega), if_pos rfl, if_pos (by omega), lenM_at h]
    · rw [if_neg h1, if_neg h2, if_neg (by omega)]
      by_cases h3 : n = i + 1
      · rw [if_pos h3]
      · rw [if_neg h3]
/-- what build answers -/
def BuildR (K : Cfg) (s0 : Gs) (w0 : World) (bb base : Nat) (r : Value) (w' : World) : Prop := ∃ s msv mfb, r = pt bb ∧ RowKit.Below K.N w0 w' ∧ Blt K s w' bb ∧ MsI K s w' base (cntM K.D K.D.length 0) msv mfb ∧ s.nm = s0.nm

set_option maxHeartbeats 8000000 in
theorem build4 {K : Cfg} {P : Nat → Prop} {s0 : Gs} {w0 : World} {bb : Nat} {made0 : List Nat} {a : Option Addr} {cp : Nat} {p : Nat → Prop} (hbl0 : BL K P s0 w0 bb made0) (hdc0 : DclI K s0 w0 K.D.length) (hms0 : MsI K s0 w0 w0.heap.size (cntM K.D 0 0) (fun _ => .slice none 0 0) (fun _ => []))
    (hP : ∀ d, P d → d < w0.heap.size) (hln0 : made0.length ≤ wtD K.D) (hd : DsV w0 p (.slice a K.D.length cp) K.D) (hp : ∀ b, p b → b < K.N) :
    ∃ c, dropA 15 (bodyA Tryz.f44) = some c ∧ W Tryz.prog 148 c (fin Tryz.prog Tryz.f44 (Ret (BuildR K s0 w0 bb w0.heap.size))) [] [(0, .slice a K.D.length cp), (3, pt bb)] w0 := by
  have hDl : K.D.length ≤ 16777216 := by
    have h1 : ∀ D : List De, D.length ≤ wtD D := fun D => by
      induction D with
      | nil => exact Nat.zero_le _
      | cons e r ih =>
        have := wtD_app [e] r
        have h2 : 1 ≤ wtD [e] := by unfold wtD wtDe; have := wt_pos e.ty; simp; omega
        simp only [List.length_cons]
        rw [List.singleton_append] at this
        omega
    have := h1 K.D
    have := hbl0.wd
    omega
  have hwd := hbl0.wd
  have hN0 := hbl0.hN
  refine ⟨_, rfl, ?_⟩
  refine zst ?_
  refine W.loop (σ := Nat) (fun k => [(88, .int .i64 k), (87, .int .i64 K.D.length), (86, .slice a K.D.length cp), (3, pt bb)])
    (fun k D' wk => D' = [] ∧ k ≤ K.D.length ∧ ∃ s made msv mfb, MSt K P s0 w0 bb w0.heap.size k 0 wk s made msv mfb ∧ made.length ≤ wtD K.D + wtD (K.D.take k))
    (fun k => K.D.length - k) 0 ⟨rfl, Nat.zero_le _, s0, made0, _, _, ⟨RowKit.Below.refl _ _, hbl0, hdc0, hms0, rfl, Nat.le_refl _⟩, by omega⟩ (by exact sub_of ⟨rfl, rfl, rfl, rfl, trivial⟩) ?_
  rintro i D' wk ⟨rfl, hi, s, made, msv, mfb, hS, hlnk⟩
  refine zst ?_
  by_cases hlt : i < K.D.length
  · rw [show decide ((i : Int) < (K.D.length : Int)) = true by simpa using hlt]
    have he := List.getElem?_eq_getElem hlt
    generalize K.D[i] = e at he
    obtain ⟨b, o, a3, c3, a4, c4, f, rfl, hpb, hc, hte, hms1, hms2⟩ := hd.next he
    have hme : MesV w0 p a4 e.ms := ⟨f, hms1, hms2⟩
    have hck : Cells wk b (o + i * 12) (del e a3 c3 a4 c4) := Cells.sameB (hS.bel.block b (hp b hpb)) hc
    have hmh := hbl0.vd.ms i e he
    have hpkg := hbl0.vd.pkg i e he
    have hwe := wtD_take he
    have hwl := wtD_le K.D (i + 1)
    refine zst ?_
    refine WU.yld rfl rfl rfl (yld_load_cells rfl hck) ?_
    refine WU.stp rfl rfl rfl stp_alloc ?_
    rintro _ w2 ⟨b9, rfl, n2⟩
    refine zst ?_
    refine WU.stp0 rfl rfl (stp_store_whole rfl rfl rfl rfl) ?_
    rintro _ w3 u3
    have x3 : Ext wk w3 := (u3.ofNew n2).ext
    have ib9 : Has w3 b9 (.cells (del e a3 c3 a4 c4).toArray 51) := u3.has
    have hS3 := hS.ext x3
    clear u3 n2
    have hml : e.ms.length ≤ 16777216 := by
      have := wtM_len e.ms
      have : wtDe e = wt e.ty + (e.name.size + wtM e.ms) := rfl
      omega
    have hwde : wtDe e = wt e.ty + (e.name.size + wtM e.ms) := rfl
    refine zst ?_
    refine W.loop (σ := Nat) (fun j => [(96, .int .i64 j), (95, .int .i64 e.ms.length), (94, .slice a4 e.ms.length c4), (9, pt b9), (8, .int .i64 i), (88, .int .i64 i), (87, .int .i64 K.D.length), (86, .slice (some ⟨b, o, none⟩) K.D.length cp), (3, pt bb)])
      (fun j D' wj => D' = [] ∧ j ≤ e.ms.length ∧ Has wj b9 (.cells (del e a3 c3 a4 c4).toArray 51) ∧ ∃ s made msv mfb, MSt K P s0 w0 bb w0.heap.size i j wj s made msv mfb ∧ made.length ≤ wtD K.D + wtD (K.D.take i) + wtM (e.ms.take j))
      (fun j => e.ms.length - j) 0 ⟨rfl, Nat.zero_le _, ib9, s, made, msv, mfb, hS3, by omega⟩ (by exact sub_of ⟨rfl, rfl, rfl, rfl, rfl, rfl, rfl, rfl, rfl, trivial⟩) ?_
    clear hS hS3 hck ib9 hlnk x3
    clear s made msv mfb wk w2 w3
    rintro j D' wj ⟨rfl, hj, ib9, s, made, msv, mfb, hS, hlnj⟩
    refine zst ?_
    by_cases hltj : j < e.ms.length
    · rw [show decide ((j : Int) < (e.ms.length : Int)) = true by simpa using hltj]
      have hmj := List.getElem?_eq_getElem hltj
      generalize e.ms[j] = m at hmj
      have hal : e.al = false := (hmh.kind fun h => by rw [h] at hltj; simp at hltj).1
      obtain ⟨hmu, hm8, hmsh, hmlg⟩ := hmh.fn m (List.mem_of_getElem? hmj)
      have hwm := wtM_take hmj
      have hwm2 := wtM_le e.ms (j + 1)
      obtain ⟨bm, om, am, cm, rfl, hpbm, hcm, htm⟩ := hme.next hmj
      have hcmj : Cells wj bm (om + j * 9) (mel m am cm) := Cells.sameB (hS.bel.block bm (hp bm hpbm)) hcm
      refine zst ?_
      refine WU.yld rfl rfl rfl (yld_load_cells rfl hcmj) ?_
      refine WU.stp rfl rfl rfl stp_alloc ?_
      rintro _ w2 ⟨b11, rfl, n2⟩
      refine WU.stp0 rfl rfl (stp_store_whole rfl rfl rfl rfl) ?_
      rintro _ w3 u3
      have x3 : Ext wj w3 := (u3.ofNew n2).ext
      have ib11 : Has w3 b11 (.cells (mel m am cm).toArray 92) := u3.has
      have jb9 := ib9.ext' x3
      have hS3 := hS.ext x3
      clear u3 n2
      obtain ⟨nb, nob, nT, nub, hnm, hng, hnv, hnt, hno, hnl, hnc, hnq⟩ := hS3.ms.nam i e he hal
      obtain ⟨vm, ncs, hbb3, hnb3, hnsz, hncell⟩ := hS3.bl.nr
      have hnci := hncell i _ hnm
      obtain ⟨pc, px, hpc, hpk⟩ := hS3.bl.bi.pkg e.pkg hpkg
      refine zst ?_
      refine WU.yld rfl rfl rfl (yld_load_c rfl (by rw [Nat.mul_one, Nat.zero_add]; exact cell_of hnb3 hnci)) ?_
      refine zst ?_
      refine W.join (fun e' w' => Ext w3 w' ∧ ∃ rt, IsI rt ∧ (m.ptr = false → rt = .iface tNP (pt nb)) ∧ (m.ptr = true → ∃ pb, rt = .iface tPP (pt pb) ∧ Has w' pb (.cells #[.iface tNP (pt nb)] tPT)) ∧
        subs e' [(13, rt), (12, pt nb), (11, pt b11), (96, .int .i64 j), (95, .int .i64 e.ms.length), (94, .slice (some ⟨bm, om, none⟩) e.ms.length c4), (9, pt b9), (8, .int .i64 i), (88, .int .i64 i), (87, .int .i64 K.D.length), (86, .slice (some ⟨b, o, none⟩) K.D.length cp), (3, pt bb)]) ?_ ?_
      · cases hmp : m.ptr
        · refine zst ?_
          exact ⟨rfl, rfl, Ext.rfl' _, _, ⟨_, _, rfl⟩, fun _ => rfl, fun h => (by cases h), rfl, rfl, rfl, rfl, rfl, rfl, rfl, rfl, rfl, rfl, rfl, rfl, trivial⟩
        · refine zst ?_
          refine WU.stp rfl rfl rfl (stp_call rfl (c_NewPointer tNP (pt nb) w3)) ?_
          rintro _ w4 ⟨pb, rfl, n4⟩
          refine zst ?_
          exact ⟨rfl, rfl, n4.ext, _, ⟨_, _, rfl⟩, fun h => (by cases h), fun _ => ⟨pb, rfl, n4.has⟩, rfl, rfl, rfl, rfl, rfl, rfl, rfl, rfl, rfl, rfl, rfl, rfl, trivial⟩
      · rintro e' w4 ⟨x4, rt, ⟨T, rb, rfl⟩, hrf, hrp, hsub⟩
        refine W.sub (e' := [(13, .iface T (pt rb)), (12, pt nb), (11, pt b11), (96, .int .i64 j), (95, .int .i64 e.ms.length), (94, .slice (some ⟨bm, om, none⟩) e.ms.length c4), (9, pt b9), (8, .int .i64 i), (88, .int .i64 i), (87, .int .i64 K.D.length), (86, .slice (some ⟨b, o, none⟩) K.D.length cp), (3, pt bb)]) ?_ (sub_of hsub)
        obtain ⟨q, hq, hq2⟩ : ∃ q : Nat, e.pkg = q ∧ q < 2 := by
          rcases hpkg with h | h
          · exact ⟨0, h, by omega⟩
          · exact ⟨1, h, by omega⟩
        have pkc : ∀ (W : World) (u v : Value), Has W bb (.cells #[s.pk 0, s.pk 1, u, s.er, v] tBU) → W.cell? ⟨bb, q, none⟩ = some (pt pc) := fun W u v h => by
          rw [← hpc, hq]
          match q, hq2 with
          | 0, _ => exact cell_of h rfl
          | 1, _ => exact cell_of h rfl
        have hdel : del e a3 c3 (some ⟨bm, om, none⟩) c4 = [.string e.name, .int .i64 q, .bool e.al, .int .i64 e.ty.kind, .int .i64 e.ty.n, .int .i64 e.ty.count, .bool e.ty.vr, .slice a3 e.ty.elems.length c3, .string e.ty.name, .string e.ty.tag, .bool e.ty.emb, .slice (some ⟨bm, om, none⟩) e.ms.length c4] := by unfold del; rw [hq]
        have jb9q := jb9
        rw [hdel] at jb9q
        have jb4 := jb9q.ext' x4
        have hbb4 := hbb3.ext' x4
        refine zst ?_
        refine W.regD [(0, .q), (1, .q), (2, .q), (3, .q), (4, .q), (5, .q), (6, .q), (7, .q), (8, .l), (9, .q)] (by kernel_rfl) (by kernel_rfl) rfl ?_
        intro w5 x5 _
        have jb5 := jb4.ext' x5
        have hbb5 := hbb4.ext' x5
        refine zsd ?_
        refine WD.yld rfl rfl rfl rfl (yld_indexAddr_arr (i := q) rfl rfl (by omega)) ?_
        refine zsd ?_
        refine WD.yld rfl rfl rfl rfl (yld_load_c rfl (pkc _ _ _ hbb5)) ?_
        refine zsd ?_
        refine WD.stp rfl rfl rfl rfl (stp_call rfl (c_NewVar 0 (some ⟨pc, 0, none⟩) eB T (pt rb) w5)) ?_
        rintro _ w6 ⟨rv, rfl, n6⟩
        refine ⟨by first | assumption | exact Ext.rfl' _ | infer_instance, ?_⟩
        refine zsd ?_
        refine zst ?_
        have x36 : Ext w3 w6 := (x4.trans x5).trans n6.ext
        have hS6 := hS3.ext x36
        have jb6 := jb9q.ext' x36
        have ib6 := ib11.ext' x36
        have hbb6 := hbb3.ext' x36
        obtain ⟨F, hFd⟩ : ∃ F : World → Prop, ∀ W, F W ↔ (Has W b9 (.cells #[.string e.name, .int .i64 q, .bool e.al, .int .i64 e.ty.kind, .int .i64 e.ty.n, .int .i64 e.ty.count, .bool e.ty.vr, .slice a3 e.ty.elems.length c3, .string e.ty.name, .string e.ty.tag, .bool e.ty.emb, .slice (some ⟨bm, om, none⟩) e.ms.length c4] 51) ∧ Has W b11 (.cells (mel m am cm).toArray 92) ∧ ∃ u, Has W bb (.cells #[s.pk 0, s.pk 1, .slice (some ⟨K.nb, 0, none⟩) K.D.length K.D.length, s.er, u] tBU)) := ⟨fun W => (Has W b9 (.cells #[.string e.name, .int .i64 q, .bool e.al, .int .i64 e.ty.kind, .int .i64 e.ty.n, .int .i64 e.ty.count, .bool e.ty.vr, .slice a3 e.ty.elems.length c3, .string e.ty.name, .string e.ty.tag, .bool e.ty.emb, .slice (some ⟨bm, om, none⟩) e.ms.length c4] 51) ∧ Has W b11 (.cells (mel m am cm).toArray 92) ∧ ∃ u, Has W bb (.cells #[s.pk 0, s.pk 1, .slice (some ⟨K.nb, 0, none⟩) K.D.length K.D.length, s.er, u] tBU)), fun _ => Iff.rfl⟩
        refine W.regR (R := fun a b => F a → F b) (fun _ h => h) (fun _ _ _ h k x => k (h x)) [(0, .q), (1, .q), (2, .q), (3, .q), (4, .q), (5, .q), (6, .q), (7, .q), (8, .q), (9, .q), (10, .q), (11, .q), (12, .q), (13, .q), (14, .q), (15, .l), (16, .l), (17, .l)] (by kernel_rfl) (by kernel_rfl) rfl ?_
        intro w7 x7 _
        have hF : F w7 := (hFd _).2 ⟨jb6.ext' x7, ib6.ext' x7, vm, hbb6.ext' x7⟩
        have hS7 := hS6.ext x7
        (repeat (first
            | refine WR.nilk ?_
            | refine WR.nil ?_
            | refine WR.yld (fun _ h => h) rfl rfl rfl rfl (fun w' hx => by obtain ⟨i1, i2, u, i3⟩ := (hFd _).1 (hx hF); first | exact zyl | (exact by first | exact yld_indexAddr_arr (i := q) rfl rfl (by omega) | exact yld_load_c rfl (pkc _ _ u i3) | exact yld_load_cells rfl (Cells.me_of (Cells.has i2))) | exact yld_indexAddr_arr rfl rfl (by omega)) ?_
            | refine WR.skip rfl rfl rfl rfl ?_))
        have hx7 : Ctx K.D K K.D.length s w7 bb made := ⟨hS7.bl.bi, fun n e he _ => hS7.dc.nms he, hS7.bl.prp, hS7.bl.gN, rfl, Nat.le_refl _⟩
        have hask : Ask K.D K.D.length w7 K p (tyc m.fn am cm) m.fn := ⟨.of_tys (htm.same fun b hb => hS7.bel.block b (hp b hb)), fun b hb => ⟨hp b hb, Nat.lt_of_lt_of_le (hp b hb) hS7.bl.hN⟩, ⟨false, hmsh⟩, hmlg⟩
        refine WR.stp rfl rfl rfl rfl (stp_call rfl (c_signature K.D K K.D.length m.fn hm8 (fun q e' he' => c_typ' K.D K K.D.length e') s w7 bb made p _ (some ⟨rv, 0, none⟩) hx7 hask (by show _ ≤ 268435456; omega))) ?_
        rintro r w8 ⟨sb, ps8, rs8, s2, new2, rfl, m8, rt8, hge8, hh8⟩
        have hF : F w8 := by
          obtain ⟨i1, i2, u, i3⟩ := (hFd _).1 hF
          exact (hFd _).2 ⟨Has.sta m8.sta i1, Has.sta m8.sta i2, Has.staB m8.sta i3⟩
        refine ⟨fun _ => hF, ?_⟩
        (repeat (first
            | refine WR.nilk ?_
            | refine WR.nil ?_
            | refine WR.yld (fun _ h => h) rfl rfl rfl rfl (fun w' hx => by obtain ⟨i1, i2, u, i3⟩ := (hFd _).1 (hx hF); first | exact zyl | (exact by first | exact yld_indexAddr_arr (i := q) rfl rfl (by omega) | exact yld_load_c rfl (pkc _ _ u i3) | exact yld_load_cells rfl (Cells.me_of (Cells.has i2))) | exact yld_indexAddr_arr rfl rfl (by omega)) ?_
            | refine WR.skip rfl rfl rfl rfl ?_))
        refine WR.stp rfl rfl rfl rfl (stp_call rfl (c_NewFunc 0 (some ⟨pc, 0, none⟩) m.fn.name sb w8)) ?_
        rintro _ w9 ⟨fb, rfl, n9⟩
        have hF : F w9 := by
          obtain ⟨i1, i2, u, i3⟩ := (hFd _).1 hF
          exact (hFd _).2 ⟨i1.ext' n9.ext, i2.ext' n9.ext, u, i3.ext' n9.ext⟩
        refine ⟨fun _ => hF, ?_⟩
        (repeat (first
            | refine WR.nilk ?_
            | refine WR.nil ?_
            | refine WR.yld (fun _ h => h) rfl rfl rfl rfl (fun w' hx => by obtain ⟨i1, i2, u, i3⟩ := (hFd _).1 (hx hF); first | exact zyl | (exact by first | exact yld_indexAddr_arr (i := q) rfl rfl (by omega) | exact yld_load_c rfl (pkc _ _ u i3) | exact yld_load_cells rfl (Cells.me_of (Cells.has i2))) | exact yld_indexAddr_arr rfl rfl (by omega)) ?_
            | refine WR.skip rfl rfl rfl rfl ?_))
        have hS9 := (hS7.made m8).ext n9.ext
        obtain ⟨nb', nob', nT', nub', hnm', hng', hnv', hnt', hno', hnl', hnc', hnq'⟩ := hS9.ms.nam i e he hal
        have hnbe : nb' = nb := by
          have h1 := (congrFun (hS9.nm.trans hS.nm.symm) i).symm.trans hnm'
          rw [hnm] at h1
          cases h1
          rfl
        subst hnbe
        have hcj : cntM K.D i j i = j := by unfold cntM; simp
        rw [hcj] at hnl'
        have hspk : (s2.clo w7.heap.size w8.heap.size).pk e.pkg = pt pc := by rw [← hpc]; exact congrFun m8.gle.pk _
        rw [hspk] at hnt'
        have hpk9 : Has w9 pc (.cells #[.string (pth e.pkg), .string px] tPK) := (Has.sta m8.sta ((hpk.ext' x36).ext' x7)).ext' n9.ext
        have hfb9 : FuncV w9 fb (pt pc) m.fn.name (.iface tSP (pt sb)) := n9.has
        have huq := hmh.unq
        have hnmu : ∀ (k : Nat) m', e.ms[k]? = some m' → (names (e.ms.map (·.fn)) ++ (if (underT K.D e.ty).kind = 7 then names (underT K.D e.ty).elems else []))[k]? = some m'.fn.name.toList := fun k m' hk => by
          have hlt := (List.getElem?_eq_some_iff.1 hk).1
          rw [List.getElem?_append_left (by unfold names; simpa using hlt)]
          unfold names
          rw [List.getElem?_map, List.getElem?_map, hk]
          rfl
        have hmeo : MeO K (s2.clo w7.heap.size w8.heap.size) w9 nb' e m fb := ⟨sb, rv, _, _, pt pc, .iface T (pt rb), 1, by rw [hspk]; exact hfb9, RT.ext n9.ext ((rt8.mono (q := (s2.clo w7.heap.size w8.heap.size).sl) fun d hd hpd => .inr ⟨hpd, hd⟩).le (Gs.gle_seal ..).le), hh8.ext' n9.ext, (Has.sta m8.sta (n6.has.ext' x7)).ext' n9.ext, hrf, fun hm => by
          obtain ⟨pb, k1, k2⟩ := hrp hm
          exact ⟨pb, k1, (Has.sta m8.sta (((k2.ext' x5).ext' n6.ext).ext' x7)).ext' n9.ext⟩⟩
        refine WR.stp rfl rfl rfl rfl (stp_call rfl (c_AddMethod nb' fb nob' pc w0.heap.size (.iface nT' (pt nub')) (msv i) (.iface tSP (pt sb)) e.name m.fn.name (pth e.pkg) px (.iface tNP (pt nb')) (mfb i) w9 hnv' hnt' hfb9 hpk9 hno' (fun q' g hg => by
                  have hql := (List.getElem?_eq_some_iff.1 hg).1
                  have hqe := List.getElem?_eq_getElem (show q' < e.ms.length by omega)
                  obtain ⟨sb', _, _, _, _, _, _, k1, _⟩ := hnq' q' _ g hqe hg
                  exact ⟨_, _, _, k1, fun heq => hmu (by
                    have := huq.un q' j _ (by omega) (hnmu q' _ hqe) (by rw [heq]; exact hnmu j m hmj)
                    rw [← heq]; exact this)⟩) hmu (by omega) hS9.bs)) ?_
        rintro _ w10 ⟨ms', hnam', ho', had⟩
        have hac : AddC K w9 w10 nb' w0.heap.size (pt nob') (.iface nT' (pt nub')) (msv i) ms' (mfb i) := ⟨hnv', hnam', hno', had, _, _, rfl⟩
        have hF : F w10 := by
          obtain ⟨i1, i2, u, i3⟩ := (hFd _).1 hF
          exact (hFd _).2 ⟨hac.has (by decide) (by decide) i1, hac.has (by decide) (by decide) i2, u, hac.has (by decide) (by decide) i3⟩
        refine ⟨fun _ => hF, ?_⟩
        (repeat (first
            | refine WR.nilk ?_
            | refine WR.nil ?_
            | refine WR.yld (fun _ h => h) rfl rfl rfl rfl (fun w' hx => by obtain ⟨i1, i2, u, i3⟩ := (hFd _).1 (hx hF); first | exact zyl | (exact by first | exact yld_indexAddr_arr (i := q) rfl rfl (by omega) | exact yld_load_c rfl (pkc _ _ u i3) | exact yld_load_cells rfl (Cells.me_of (Cells.has i2))) | exact yld_indexAddr_arr rfl rfl (by omega)) ?_
            | refine WR.skip rfl rfl rfl rfl ?_))
        have hS10 := hS9.add he hnm' hng' hmj hac ho' hmeo hP hN0
        have jb10 := ((hFd _).1 hF).1
        have hln8 := m8.len
        have hwtf := wt_eq m.fn
        refine zst ?_
        exact ⟨j + 1, by omega, ⟨rfl, by omega, by rw [hdel]; exact jb10, _, _, _, _, hS10, by rw [List.length_append]; omega⟩, sub_of ⟨rfl, rfl, rfl, rfl, rfl, rfl, rfl, rfl, rfl, trivial⟩⟩
    · rw [show decide ((j : Int) < (e.ms.length : Int)) = false by simpa using hltj]
      obtain rfl : j = e.ms.length := by omega
      rw [List.take_of_length_le (Nat.le_refl _)] at hlnj
      refine zst ?_
      refine ⟨i + 1, by omega, ⟨rfl, by omega, s, made, msv, mfb, ⟨hS.bel, hS.bl, hS.dc, by rw [← cntM_end he]; exact hS.ms, hS.nm, hS.bs⟩, by omega⟩, sub_of ⟨rfl, rfl, rfl, rfl, trivial⟩⟩
  · rw [show decide ((i : Int) < (K.D.length : Int)) = false by simpa using hlt]
    obtain rfl : i = K.D.length := by omega
    have hwl := wtD_le K.D K.D.length
    have hii := hS.bl.ii.all
    have hsc := sc_of hS.bl.bi hS.dc hS.bl.er hii hS.bl.prp hS.bl.gN hS.bl.vd.sh hS.bl.wd
    refine zst ?_
    refine WU.stp rfl rfl rfl (stp_call rfl (c_complete hS.bl.bi hsc hii (by omega))) ?_
    rintro _ w3 ⟨st3, hbi3, hii3⟩
    refine zst ?_
    exact fin1 (.inl rfl) rfl rfl ⟨s, msv, mfb, rfl, Below.sta hS.bel st3 hS.bl.hN, ⟨hbi3, hS.dc.sta st3 (by omega), hS.bl.er.sta st3 (by omega), hii3, hS.bl.prp.sta st3 hS.bl.gN, hS.bl.gN, hS.bl.vd, hS.bl.wd⟩, hS.ms.sta st3 (by omega), hS.nm⟩
end Go.Proofs.YtpiegpegjbmlkaaGreatDoor
namespace Go.Proofs.YtpiegpegjbmlkaaGreatDoor
open Go Go.Kd
set_option maxRecDepth 100000

theorem MeV.same {w w' : World} {p : Nat → Prop} (hs : ∀ b, p b → w'.heap[b]? = w.heap[b]?) {cs : List Value} {m : Me} (h : MeV w p cs m) : MeV w' p cs m := by
  obtain ⟨ts, h1, h2⟩ := h
  exact ⟨ts, h1, h2.same hs⟩
theorem DeV.same {w w' : World} {p : Nat → Prop} (hs : ∀ b, p b → w'.heap[b]? = w.heap[b]?) {cs : List Value} {e : De} (h : DeV w p cs e) : DeV w' p cs e := by
  obtain ⟨ts, a, cp, f, h1, h2, h3, h4⟩ := h
  exact ⟨ts, a, cp, f, h1, h2.same hs, h3.same hs, fun i m hm => (h4 i m hm).same hs⟩
theorem DsV.same {w w' : World} {p : Nat → Prop} (hs : ∀ b, p b → w'.heap[b]? = w.heap[b]?) {v : Value} {D : List De} (h : DsV w p v D) : DsV w' p v D := by
  obtain ⟨a, cp, f, h1, h2, h3⟩ := h
  exact ⟨a, cp, f, h1, h2.same hs, fun i e he => (h3 i e he).same hs⟩

/-- the defined types that are made have no methods yet -/
def NoM (K : Cfg) (s : Gs) (w : World) (i : Nat) : Prop := ∀ (n : Nat) e, K.D[n]? = some e → e.al = false → n < i → ∃ b ob T ub, s.nm n = some (.iface tNP (pt b)) ∧ s.g b = some (tN n) ∧ NamV w b (pt ob) (.iface T (pt ub)) (.slice none 0 0) ∧ TnV w ob (s.pk e.pkg) e.name (.iface tNP (pt b))
theorem NoM.keep {K : Cfg} {l : Nat} {s : Gs} {w w' : World} {i : Nat} (x : Sta K l w w') (hN : ∀ d cs, Has w d (.cells cs tNM) → Has w' d (.cells cs tNM)) (h : NoM K s w i) : NoM K s w' i := fun n e he ha hn => by
  obtain ⟨b, ob, T, ub, h1, h2, h3, h4⟩ := h n e he ha hn
  exact ⟨b, ob, T, ub, h1, h2, hN _ _ h3, h4.sta x⟩
theorem NoM.sle {K : Cfg} {s s' : Gs} {w : World} {i : Nat} (l : s.sle s') (h : NoM K s w i) : NoM K s' w i := fun n e he ha hn => by
  obtain ⟨b, ob, T, ub, h1, h2, h3, h4⟩ := h n e he ha hn
  exact ⟨b, ob, T, ub, l.le.nm _ _ h1, l.le.g _ _ h2, h3, by rw [l.le.pk]; exact h4⟩
theorem NoM.next {K : Cfg} {s : Gs} {w : World} {i : Nat} {e : De} (he : K.D[i]? = some e) (hi : e.al = false → ∃ b ob T ub, s.nm i = some (.iface tNP (pt b)) ∧ s.g b = some (tN i) ∧ NamV w b (pt ob) (.iface T (pt ub)) (.slice none 0 0) ∧ TnV w ob (s.pk e.pkg) e.name (.iface tNP (pt b))) (h : NoM K s w i) : NoM K s w (i + 1) := fun n e' he' ha hn => by
  by_cases hni : n = i
  · subst hni
    rw [he] at he'
    cases he'
    exact hi ha
  · exact h n e' he' ha (by omega)
theorem DclI.next {K : Cfg} {s : Gs} {w : World} {i : Nat} {e : De} (he : K.D[i]? = some e) (hi : DclV K s w i e true) (h : DclI K s w i) : DclI K s w (i + 1) := fun n e' he' => by
  by_cases hni : n = i
  · subst hni
    rw [he] at he'
    cases he'
    rw [decide_eq_true (Nat.lt_succ_self n)]
    exact hi
  · have := h n e' he'
    rwa [show decide (n < i + 1) = decide (n < i) from by by_cases hn : n < i <;> simp [hn] <;> omega]
/-- the state when types are made -/
structure LSt (K : Cfg) (P : Nat → Prop) (w0 : World) (bb i : Nat) (w : World) (s : Gs) (made : List Nat) : Prop where
  bel : RowKit.Below K.N w0 w
  bl : BL K P s w bb made
  dc : DclI K s w i
  no : NoM K s w i
section
variable {K : Cfg} {P : Nat → Prop} {w0 w w' : World} {bb i : Nat} {s : Gs} {md : List Nat}
theorem LSt.chg {l : Nat} (x : Sta K l w w') (hl : l ≤ 3) (hk : NKept w w') (hN : ∀ d cs, Has w d (.cells cs tNM) → Has w' d (.cells cs tNM)) (h : LSt K P w0 bb i w s md) : LSt K P w0 bb i w' s md :=
  ⟨Below.sta h.bel x h.bl.hN, h.bl.chg x hl hk, h.dc.chg x hl hN, h.no.keep x hN⟩
theorem LSt.ext (x : Ext w w') (h : LSt K P w0 bb i w s md) : LSt K P w0 bb i w' s md := h.chg (l := 0) (.of_ext x) (by omega) (.of_ext x) fun _ _ hh => hh.ext' x
theorem LSt.made {s' : Gs} {n : Nat} {new : List Nat} (h : LSt K P w0 bb i w s md) (m : Made K s w bb md n s' new w') : LSt K P w0 bb i w' (s'.clo w.heap.size w'.heap.size) (md ++ new) := by
  have hg : s.gle (s'.clo w.heap.size w'.heap.size) := m.gle.trans (Gs.gle_seal ..)
  have hN : ∀ d cs, Has w d (.cells cs tNM) → Has w' d (.cells cs tNM) := fun d cs hh => Has.sta0 m.sta (by decide) (by decide) hh
  exact ⟨Below.sta h.bel m.sta h.bl.hN, (h.bl.made m).clo _ (Nat.le_refl _), (h.dc.chg m.sta (by omega) hN).gle hg, (h.no.keep m.sta hN).sle hg.sle⟩
/-- an alias is named -/
theorem LSt.setNm (h : LSt K P w0 bb i w s md) {v : Value} (hk : i < K.D.length) (hn : s.nm i = none) (hv : IsI v) {cs : Array Value} (hcs : Has w K.nb (.cells cs tTY)) (u : Upd w K.nb (.cells (cs.setIfInBounds i v) tTY) w') : LSt K P w0 bb i w' (s.setNm i v) md := by
  have x : Sta K 2 w w' := sta_nb h.bl.bi.nbN hcs u
  have hN : ∀ d cs, Has w d (.cells cs tNM) → Has w' d (.cells cs tNM) := fun d cs hh => ⟨(u.oth _ (Has.tne hh hcs (by decide))).trans hh.at_⟩
  have l : s.sle (s.setNm i v) := Gs.sle_setNm hn
  exact ⟨bel_upd h.bel u h.bl.bi.nbN, h.bl.setNm hk hn hv hcs u, fun n e he => ((h.dc.chg x (by omega) hN) n e he).sle l, (h.no.keep x hN).sle l⟩
theorem LSt.next (h : LSt K P w0 bb i w s md) {e : De} (he : K.D[i]? = some e) (hi : DclV K s w i e true) (hi2 : e.al = false → ∃ b ob T ub, s.nm i = some (.iface tNP (pt b)) ∧ s.g b = some (tN i) ∧ NamV w b (pt ob) (.iface T (pt ub)) (.slice none 0 0) ∧ TnV w ob (s.pk e.pkg) e.name (.iface tNP (pt b))) : LSt K P w0 bb (i + 1) w s md :=
  ⟨h.bel, h.bl, h.dc.next he hi, h.no.next he hi2⟩
/-- a defined type has its underlying type -/
theorem LSt.und (h : LSt K P w0 bb i w s md) {e : De} (he : K.D[i]? = some e) (hal : e.al = false) {b ob T ub : Nat} {y : Ty} (h1 : s.nm i = some (.iface tNP (pt b))) (hg : s.g b = some (tN i)) (ht : TnV w ob (s.pk e.pkg) e.name (.iface tNP (pt b)))
    (hb : Has w b (.cells (nmc (pt ob) true 0 0 .nilIface .nilIface (.slice none 0 0)) tNM)) (u : Upd w b (.cells (nmc (pt ob) false 0 15 (.iface T (pt ub)) (.iface T (pt ub)) (.slice none 0 0)) tNM) w') (hr : RT K s w s.sl (.iface T (pt ub)) y) (hy : isLit y) (hu : underT K.D (tN i) = norm y) : LSt K P w0 bb (i + 1) w' s md := by
  have hNb : K.N ≤ b := (h.bl.ii b _ hg).1
  have st : Sta K 2 w w' := .of_upd hb u hNb ⟨rfl, fun i hi => by
    unfold mc at hi
    simp only [show ¬ tNM = tTY from by decide, show ¬ tNM = tIF from by decide, show ¬ tNM = tSG from by decide, if_false, if_true] at hi
    simp [nilI] at hi
    match i, hi with
    | 0, _ => rfl
    | 1, _ => rfl⟩
  have hk : NKept w w' := fun d cs t hh h1 _ => ⟨(u.oth d (Has.tne hh hb h1)).trans hh.at_⟩
  have hoth : ∀ d cs, d ≠ b → Has w d (.cells cs tNM) → Has w' d (.cells cs tNM) := fun d cs hne hh => ⟨(u.oth d hne).trans hh.at_⟩
  have hne : ∀ (n c : Nat), n ≠ i → s.g c = some (tN n) → c ≠ b := fun n c hn hc e => by
    subst e
    rw [hg] at hc
    exact hn (tN_inj (Option.some.inj hc)).symm
  refine ⟨bel_upd h.bel u hNb, h.bl.chg st (by omega) hk, fun n e' he' => ?_, fun n e' he' ha hn => ?_⟩
  · by_cases hni : n = i
    · subst hni
      rw [he] at he'
      cases he'
      rw [decide_eq_true (Nat.lt_succ_self n)]
      exact .def1 b ob _ _ y hal h1 hg (ht.sta st) u.has (hr.sta st (by omega)) hy hu
    · have := h.dc n e' he'
      rw [show decide (n < i + 1) = decide (n < i) from by by_cases hn : n < i <;> simp [hn] <;> omega]
      generalize decide (n < i) = d at this ⊢
      cases this with
      | def0 b' ob' k1 k2 k3 k4 k5 => exact .def0 b' ob' k1 k2 k3 (k4.sta st) (hoth _ _ (hne n b' hni k3) k5)
      | def1 b' ob' u' ms' y' k1 k2 k3 k4 k5 k6 k7 k8 => exact (DclV.def1 b' ob' u' ms' y' k1 k2 k3 k4 k5 k6 k7 k8).sta1 st (by omega)
      | al0 k1 => exact .al0 k1
      | al1 b' ob' v v1 y' k1 k2 k3 k4 k5 k6 k7 k8 k9 k10 k11 => exact (DclV.al1 b' ob' v v1 y' k1 k2 k3 k4 k5 k6 k7 k8 k9 k10 k11).sta1 st (by omega)
  · by_cases hni : n = i
    · subst hni
      exact ⟨b, ob, T, ub, h1, hg, u.has, by rw [he] at he'; cases he'; exact ht.sta st⟩
    · obtain ⟨b', ob', T', ub', k1, k2, k3, k4⟩ := h.no n e' he' ha (by omega)
      exact ⟨b', ob', T', ub', k1, k2, hoth _ _ (hne n b' hni k2) k3, k4.sta st⟩
theorem LSt.ctx (h : LSt K P w0 bb i w s md) (hi : i ≤ K.D.length) : Ctx K.D K i s w bb md := ⟨h.bl.bi, fun n e he hk => by
  have := h.dc n e he
  generalize hd : decide (n < i) = d at this
  cases this with
  | def0 b ob h1 h2 => exact ⟨_, h2⟩
  | def1 b ob u ms y h1 h2 => exact ⟨_, h2⟩
  | al0 h1 =>
    rcases hk with k | k
    · rw [h1] at k; cases k
    · simp at hd; omega
  | al1 b ob v v1 y h1 h2 => exact ⟨_, h2⟩, h.bl.prp, h.bl.gN, rfl, hi⟩
theorem LSt.def0 (h : LSt K P w0 bb i w s md) {e : De} (he : K.D[i]? = some e) (hal : e.al = false) : ∃ b ob, s.nm i = some (.iface tNP (pt b)) ∧ s.g b = some (tN i) ∧ TnV w ob (s.pk e.pkg) e.name (.iface tNP (pt b)) ∧ Has w b (.cells (nmc (pt ob) true 0 0 .nilIface .nilIface (.slice none 0 0)) tNM) := by
  have := h.dc i e he
  rw [decide_eq_false (Nat.lt_irrefl i)] at this
  cases this with
  | def0 b ob h1 h2 h3 h4 h5 => exact ⟨b, ob, h2, h3, h4, h5⟩
  | al0 h1 => rw [h1] at hal; cases hal
end
theorem rdy_decl {K : Cfg} (hD : ShapedD K.D) {i : Nat} {e : De} (he : K.D[i]? = some e) : Rdy K i e.ty := fun hk => by
  have hs := (hD i e he).shape
  have hl := (List.getElem?_eq_some_iff.1 he).1
  have r1 := hs.nm hk (.inl rfl)
  have r2 := hs.n0 (by rw [hk]; simp [limitN]; try omega)
  exact ⟨r2, by omega, by omega⟩
theorem len_wtD (D : List De) : D.length ≤ wtD D := by
  induction D with
  | nil => exact Nat.zero_le _
  | cons e r ih =>
    have := wtD_app [e] r
    have h2 : 1 ≤ wtD [e] := by unfold wtD wtDe; have := wt_pos e.ty; simp; omega
    simp only [List.length_cons]
    rw [List.singleton_append] at this
    omega
theorem fin_imp {P : Program} {fn : Func} {R R' : Ending → World → Prop} (h : ∀ x w, R x w → R' x w) : ∀ x D e w, fin P fn R x D e w → fin P fn R' x D e w := fun x D e w k => by
  cases x with
  | normal => exact ⟨k.1, k.2.imp fun vs q => ⟨q.1, h _ _ q.2⟩⟩
  | ret => exact ⟨k.1, k.2.imp fun vs q => ⟨q.1, h _ _ q.2⟩⟩
  | _ => exact k.elim
/-- what build answers -/
def BuildR' (K : Cfg) (w0 : World) (bb : Nat) (r : Value) (w' : World) : Prop := ∃ s base msv mfb, r = pt bb ∧ RowKit.Below K.N w0 w' ∧ K.N ≤ base ∧ Blt K s w' bb ∧ MsI K s w' base (cntM K.D K.D.length 0) msv mfb

set_option maxHeartbeats 8000000 in
theorem build3 {K : Cfg} {P : Nat → Prop} {s0 : Gs} {w0 : World} {bb : Nat} {a : Option Addr} {cp : Nat} {p : Nat → Prop} (hL0 : LSt K P w0 bb 0 w0 s0 []) (hal0 : ∀ (n : Nat) e, K.D[n]? = some e → e.al = true → s0.nm n = none)
    (hP : ∀ d, P d → d < w0.heap.size) (hd : DsV w0 p (.slice a K.D.length cp) K.D) (hp : ∀ b, p b → b < K.N) :
    ∃ c, dropA 8 (bodyA Tryz.f44) = some c ∧ W Tryz.prog 148 c (fin Tryz.prog Tryz.f44 (Ret (BuildR' K w0 bb))) [] [(0, .slice a K.D.length cp), (3, pt bb)] w0 := by
  have hDl : K.D.length ≤ 16777216 := by
    have := len_wtD K.D
    have := hL0.bl.wd
    omega
  refine ⟨_, rfl, ?_⟩
  refine zst ?_
  refine W.loop (σ := Nat) (fun k => [(49, .int .i64 k), (48, .int .i64 K.D.length), (47, .slice a K.D.length cp), (3, pt bb), (0, .slice a K.D.length cp)])
    (fun k D' wk => D' = [] ∧ k ≤ K.D.length ∧ ∃ s made, LSt K P w0 bb k wk s made ∧ (∀ (n : Nat) e, K.D[n]? = some e → e.al = true → k ≤ n → s.nm n = none) ∧ made.length ≤ wtD (K.D.take k))
    (fun k => K.D.length - k) 0 ⟨rfl, Nat.zero_le _, s0, [], hL0, fun n e h1 h2 _ => hal0 n e h1 h2, Nat.zero_le _⟩ (by exact sub_of ⟨rfl, rfl, rfl, rfl, rfl, trivial⟩) ?_
  rintro i D' wk ⟨rfl, hi, s, made, hS, hal, hlnk⟩
  refine zst ?_
  by_cases hlt : i < K.D.length
  · rw [show decide ((i : Int) < (K.D.length : Int)) = true by simpa using hlt]
    have he := List.getElem?_eq_getElem hlt
    generalize K.D[i] = e at he
    obtain ⟨b, o, a3, c3, a4, c4, f, rfl, hpb, hc, hte, hms1, hms2⟩ := hd.next he
    have hck : Cells wk b (o + i * 12) (del e a3 c3 a4 c4) := Cells.sameB (hS.bel.block b (hp b hpb)) hc
    have hpkg := hS.bl.vd.pkg i e he
    have hshe := hS.bl.vd.sh i e he
    have hlge := hS.bl.vd.lg i e he
    have hwe := wtD_take he
    have hwl := wtD_le K.D (i + 1)
    have hwd := hS.bl.wd
    have hwde : wtDe e = wt e.ty + (e.name.size + wtM e.ms) := rfl
    have hNk := hS.bl.hN
    have hrdy := rdy_decl hS.bl.vd.sh he
    refine zst ?_
    refine WU.yld rfl rfl rfl (yld_load_cells rfl hck) ?_
    refine WU.stp rfl rfl rfl stp_alloc ?_
    rintro _ w2 ⟨b7, rfl, n2⟩
    refine zst ?_
    refine WU.stp0 rfl rfl (stp_store_whole rfl rfl rfl rfl) ?_
    rintro _ w3 u3
    have x3 : Ext wk w3 := (u3.ofNew n2).ext
    have ib7 : Has w3 b7 (.cells (del e a3 c3 a4 c4).toArray 51) := u3.has
    have hS3 := hS.ext x3
    clear u3 n2
    refine zst ?_
    cases hea : e.al
    · -- a defined type
      obtain ⟨tb, ob, htb1, htb2, htb3, htb4⟩ := hS3.def0 he hea
      obtain ⟨vm, ncs, hbb3, hnb3, hnsz, hncell⟩ := hS3.bl.nr
      have hnci := hncell i _ htb1
      refine zst ?_
      obtain ⟨F, hFd⟩ : ∃ F : World → Prop, ∀ W, F W ↔ (Has W b7 (.cells (del e a3 c3 a4 c4).toArray 51) ∧ Has W K.nb (.cells ncs tTY) ∧ ∃ u, Has W bb (.cells #[s.pk 0, s.pk 1, .slice (some ⟨K.nb, 0, none⟩) K.D.length K.D.length, s.er, u] tBU)) := ⟨fun W => (Has W b7 (.cells (del e a3 c3 a4 c4).toArray 51) ∧ Has W K.nb (.cells ncs tTY) ∧ ∃ u, Has W bb (.cells #[s.pk 0, s.pk 1, .slice (some ⟨K.nb, 0, none⟩) K.D.length K.D.length, s.er, u] tBU)), fun _ => Iff.rfl⟩
      refine W.regR (R := fun a b => F a → F b) (fun _ h => h) (fun _ _ _ h k x => k (h x)) [(0, .q), (1, .q), (2, .q), (3, .q), (4, .q), (5, .q), (6, .q), (7, .q), (8, .q), (9, .q), (10, .q), (11, .l), (12, .l), (13, .l)] (by kernel_rfl) (by kernel_rfl) rfl ?_
      intro w4 x4 _
      have hF : F w4 := (hFd _).2 ⟨ib7.ext' x4, hnb3.ext' x4, vm, hbb3.ext' x4⟩
      have hS4 := hS3.ext x4
      (repeat (first
          | refine WR.nilk ?_
          | refine WR.nil ?_
          | refine WR.yld (fun _ h => h) rfl rfl rfl rfl (fun w' hx => by obtain ⟨i1, i2, u, i3⟩ := (hFd _).1 (hx hF); first | exact zyl | (exact by first | exact yld_load_cells rfl (Cells.ty_of (Cells.has i1)) | exact yld_load_c rfl (by rw [Nat.mul_one, Nat.zero_add]; exact cell_of i2 hnci)) | exact yld_indexAddr_arr rfl rfl (by omega)) ?_
          | refine WR.skip rfl rfl rfl rfl ?_))
      have hask : Ask K.D i w4 K p (tyc e.ty a3 c3) e.ty := ⟨.of_tys (hte.same fun b hb => hS4.bel.block b (hp b hb)), fun b hb => ⟨hp b hb, Nat.lt_of_lt_of_le (hp b hb) hS4.bl.hN⟩, ⟨true, hshe⟩, hlge⟩
      refine WR.stp rfl rfl rfl rfl (stp_call rfl (c_typ' K.D K i e.ty s w4 bb made p _ (hS4.ctx hi) hask (by show _ ≤ 268435456; omega))) ?_
      rintro r w5 ⟨s5, new5, m5, rt5, T5, rb5, rfl⟩
      have hF : F w5 := by
        obtain ⟨i1, i2, u, i3⟩ := (hFd _).1 hF
        exact (hFd _).2 ⟨Has.sta m5.sta i1, Has.sta0 m5.sta (by decide) (by decide) i2, Has.staB m5.sta i3⟩
      refine ⟨fun _ => hF, ?_⟩
      have hS5 := hS4.made m5
      have rt5' : RT K (s5.clo w4.heap.size w5.heap.size) w5 (s5.clo w4.heap.size w5.heap.size).sl (.iface T5 (pt rb5)) e.ty := ((rt5.mono (q := (s5.clo w4.heap.size w5.heap.size).sl) fun d hd hpd => .inr ⟨hpd, hd⟩).le (Gs.gle_seal ..).le)
      (repeat (first
          | refine WR.nilk ?_
          | refine WR.nil ?_
          | refine WR.yld (fun _ h => h) rfl rfl rfl rfl (fun w' hx => by obtain ⟨i1, i2, u, i3⟩ := (hFd _).1 (hx hF); first | exact zyl | (exact by first | exact yld_load_cells rfl (Cells.ty_of (Cells.has i1)) | exact yld_load_c rfl (by rw [Nat.mul_one, Nat.zero_add]; exact cell_of i2 hnci)) | exact yld_indexAddr_arr rfl rfl (by omega)) ?_
          | refine WR.skip rfl rfl rfl rfl ?_))
      refine WR.stp rfl rfl rfl rfl (stp_und hS5.bl.vd.sh hS5.dc hS5.bl.er rt5' hrdy rfl) ?_
      rintro r _ ⟨rfl, y, hry, hyl, hyu, T6, ub, rfl⟩
      refine ⟨fun h => h, ?_⟩
      (repeat (first
          | refine WR.nilk ?_
          | refine WR.nil ?_
          | refine WR.yld (fun _ h => h) rfl rfl rfl rfl (fun w' hx => by obtain ⟨i1, i2, u, i3⟩ := (hFd _).1 (hx hF); first | exact zyl | (exact by first | exact yld_load_cells rfl (Cells.ty_of (Cells.has i1)) | exact yld_load_c rfl (by rw [Nat.mul_one, Nat.zero_add]; exact cell_of i2 hnci)) | exact yld_indexAddr_arr rfl rfl (by omega)) ?_
          | refine WR.skip rfl rfl rfl rfl ?_))
      obtain ⟨tb', ob', ktb1, ktb2, ktb3, ktb4⟩ := hS5.def0 he hea
      obtain rfl : tb' = tb := by
        have h1 := (congrFun m5.gle.nm i).symm.trans ktb1
        rw [htb1] at h1
        cases h1
        rfl
      obtain ⟨_, hyv, _⟩ := hry.lit hyl
      have hT6 : T6 = dynT y := by cases hyv; rfl
      have hTn := (dynT_lit y).ne
      rw [← hT6] at hTn
      refine WR.stp rfl rfl rfl rfl (stp_call rfl (c_SetUnderlying tb' ub T6 (pt ob') (.slice none 0 0) true w5 ktb4 hTn.1 hTn.2.1)) ?_
      rintro _ w6 u6
      refine ⟨fun h => ?_, ?_⟩
      · obtain ⟨i1, i2, u, i3⟩ := (hFd _).1 h
        exact (hFd _).2 ⟨⟨(u6.oth _ (Has.tne i1 ktb4 (by decide))).trans i1.at_⟩, ⟨(u6.oth _ (Has.tne i2 ktb4 (by decide))).trans i2.at_⟩, u, ⟨(u6.oth _ (Has.tne i3 ktb4 (by decide))).trans i3.at_⟩⟩
      have hS6 := hS5.und he hea ktb1 ktb2 ktb3 ktb4 u6 (hry.mono fun d _ hd => hd.elim id id) hyl (by rw [under_step hS5.bl.vd.sh (tN_kind i) (by rw [tN_n, Int.toNat_natCast]; exact he)]; exact hyu)
      (repeat (first
          | refine WR.nilk ?_
          | refine WR.nil ?_
          | refine WR.yld (fun _ h => h) rfl rfl rfl rfl (fun w' hx => by obtain ⟨i1, i2, u, i3⟩ := (hFd _).1 (hx hF); first | exact zyl | (exact by first | exact yld_load_cells rfl (Cells.ty_of (Cells.has i1)) | exact yld_load_c rfl (by rw [Nat.mul_one, Nat.zero_add]; exact cell_of i2 hnci)) | exact yld_indexAddr_arr rfl rfl (by omega)) ?_
          | refine WR.skip rfl rfl rfl rfl ?_))
      have hln5 := m5.len
      refine zst ?_
      exact ⟨i + 1, by omega, ⟨rfl, by omega, _, _, hS6, fun n e' he' ha' hn' => by
        show s5.nm n = none
        rw [m5.gle.nm]
        exact hal n e' he' ha' (by omega), by rw [List.length_append]; omega⟩, sub_of ⟨rfl, rfl, rfl, rfl, rfl, trivial⟩⟩
    · -- an alias
      obtain ⟨vm, ncs, hbb3, hnb3, hnsz, hncell⟩ := hS3.bl.nr
      obtain ⟨c0, y0, hc0, _⟩ := hS3.bl.bi.pkg 0 (.inl rfl)
      obtain ⟨c1, y1, hc1, _⟩ := hS3.bl.bi.pkg 1 (.inr rfl)
      have hni := hal i e he hea (Nat.le_refl _)
      refine zst ?_
      obtain ⟨F, hFd⟩ : ∃ F : World → Prop, ∀ W, F W ↔ (Has W b7 (.cells (del e a3 c3 a4 c4).toArray 51) ∧ Has W K.nb (.cells ncs tTY) ∧ ∃ u, Has W bb (.cells #[s.pk 0, s.pk 1, .slice (some ⟨K.nb, 0, none⟩) K.D.length K.D.length, s.er, u] tBU)) := ⟨fun W => (Has W b7 (.cells (del e a3 c3 a4 c4).toArray 51) ∧ Has W K.nb (.cells ncs tTY) ∧ ∃ u, Has W bb (.cells #[s.pk 0, s.pk 1, .slice (some ⟨K.nb, 0, none⟩) K.D.length K.D.length, s.er, u] tBU)), fun _ => Iff.rfl⟩
      refine W.regR (R := fun a b => F a → F b) (fun _ h => h) (fun _ _ _ h k x => k (h x)) [(0, .q), (1, .q), (2, .q), (3, .q), (4, .q), (5, .q), (6, .q), (8, .q), (9, .q), (10, .q), (7, .l), (11, .l), (12, .l), (13, .q), (14, .q), (15, .z)] (by kernel_rfl) (by kernel_rfl) rfl ?_
      intro w4 x4 _
      have hF : F w4 := (hFd _).2 ⟨ib7.ext' x4, hnb3.ext' x4, vm, hbb3.ext' x4⟩
      have hS4 := hS3.ext x4
      have hb4 := hbb3.ext' x4
      (repeat (first
          | refine WR.nilk ?_
          | refine WR.nil ?_
          | refine WR.yld (fun _ h => h) rfl rfl rfl rfl (fun w' hx => by obtain ⟨i1, i2, u, i3⟩ := (hFd _).1 (hx hF); first | exact zyl | (exact by first | exact yld_load_cells rfl (Cells.ty_of (Cells.has i1)) | exact yld_load_cells rfl (Cells.has i1)) | exact yld_indexAddr_arr rfl rfl (by omega)) ?_
          | refine WR.skip rfl rfl rfl rfl ?_))
      refine WR.stp rfl rfl rfl rfl (stp_call rfl (c_name bb (s.pk 0) (s.pk 1) _ s.er vm e a3 c3 a4 c4 (fun k => match k with | 0 => some ⟨c0, 0, none⟩ | _ => some ⟨c1, 0, none⟩) w4 hc0 hc1 hb4 hpkg)) ?_
      rintro _ w5 ⟨ob, rfl, hobge, hob, x5⟩
      have hF : F w5 := by
        obtain ⟨i1, i2, u, i3⟩ := (hFd _).1 hF
        exact (hFd _).2 ⟨i1.ext' x5, i2.ext' x5, u, i3.ext' x5⟩
      refine ⟨fun _ => hF, ?_⟩
      have hS5 := hS4.ext x5
      have hob5 : TnV w5 ob (s.pk e.pkg) e.name .nilIface := by
        rcases hpkg with h | h
        · rw [h] at hob ⊢; rw [hc0]; exact hob
        · rw [h] at hob ⊢; rw [hc1]; exact hob
      (repeat (first
          | refine WR.nilk ?_
          | refine WR.nil ?_
          | refine WR.yld (fun _ h => h) rfl rfl rfl rfl (fun w' hx => by obtain ⟨i1, i2, u, i3⟩ := (hFd _).1 (hx hF); first | exact zyl | (exact by first | exact yld_load_cells rfl (Cells.ty_of (Cells.has i1)) | exact yld_load_cells rfl (Cells.has i1)) | exact yld_indexAddr_arr rfl rfl (by omega)) ?_
          | refine WR.skip rfl rfl rfl rfl ?_))
      have hask : Ask K.D i w5 K p (tyc e.ty a3 c3) e.ty := ⟨.of_tys (hte.same fun b hb => hS5.bel.block b (hp b hb)), fun b hb => ⟨hp b hb, Nat.lt_of_lt_of_le (hp b hb) hS5.bl.hN⟩, ⟨true, hshe⟩, hlge⟩
      refine WR.stp rfl rfl rfl rfl (stp_call rfl (c_typ' K.D K i e.ty s w5 bb made p _ (hS5.ctx hi) hask (by show _ ≤ 268435456; omega))) ?_
      rintro r w6 ⟨s6, new6, m6, rt6, T6, rb6, rfl⟩
      have hF : F w6 := by
        obtain ⟨i1, i2, u, i3⟩ := (hFd _).1 hF
        exact (hFd _).2 ⟨Has.sta m6.sta i1, Has.sta0 m6.sta (by decide) (by decide) i2, Has.staB m6.sta i3⟩
      refine ⟨fun _ => hF, ?_⟩
      have hS6 := hS5.made m6
      have rt6' : RT K (s6.clo w5.heap.size w6.heap.size) w6 (s6.clo w5.heap.size w6.heap.size).sl (.iface T6 (pt rb6)) e.ty := ((rt6.mono (q := (s6.clo w5.heap.size w6.heap.size).sl) fun d hd hpd => .inr ⟨hpd, hd⟩).le (Gs.gle_seal ..).le)
      have hob6 : TnV w6 ob (s.pk e.pkg) e.name .nilIface := Has.sta0 m6.sta (by decide) (by decide) hob5
      have hNob : K.N ≤ ob := by have := hS4.bl.hN; omega
      (repeat (first
          | refine WR.nilk ?_
          | refine WR.nil ?_
          | refine WR.yld (fun _ h => h) rfl rfl rfl rfl (fun w' hx => by obtain ⟨i1, i2, u, i3⟩ := (hFd _).1 (hx hF); first | exact zyl | (exact by first | exact yld_load_cells rfl (Cells.ty_of (Cells.has i1)) | exact yld_load_cells rfl (Cells.has i1)) | exact yld_indexAddr_arr rfl rfl (by omega)) ?_
          | refine WR.skip rfl rfl rfl rfl ?_))
      refine WR.stp rfl rfl rfl rfl (stp_call rfl (c_NewAlias hS6.bl.vd.sh hS6.dc hS6.bl.er hob6 hNob rt6' hrdy hS6.bl.bi.sll)) ?_
      rintro _ w7 ⟨ab, T7, c7, y, rfl, habge, hab, hob7, st7, hoth7, hry, hya, hyu, hyr⟩
      have hk7 : NKept w6 w7 := fun d cs t hh h1 h2 => ⟨(hoth7 d hh.lt (Has.tne hh hob6 h2)).trans hh.at_⟩
      have hN7 : ∀ d cs, Has w6 d (.cells cs tNM) → Has w7 d (.cells cs tNM) := fun d cs hh => ⟨(hoth7 d hh.lt (Has.tne hh hob6 (by decide))).trans hh.at_⟩
      have hF : F w7 := by
        obtain ⟨i1, i2, u, i3⟩ := (hFd _).1 hF
        exact (hFd _).2 ⟨hk7 _ _ _ i1 (by decide) (by decide), hk7 _ _ _ i2 (by decide) (by decide), u, hk7 _ _ _ i3 (by decide) (by decide)⟩
      refine ⟨fun _ => hF, ?_⟩
      have hS7 := hS6.chg st7 (by omega) hk7 hN7
      obtain ⟨ib1, ib2, vm7, ib3⟩ := (hFd _).1 hF
      (repeat (first
          | refine WR.nilk ?_
          | refine WR.nil ?_
          | refine WR.yld (fun _ h => h) rfl rfl rfl rfl (fun w' hx => by obtain ⟨i1, i2, u, i3⟩ := (hFd _).1 (hx hF); first | exact zyl | (exact by first | exact yld_load_cells rfl (Cells.ty_of (Cells.has i1)) | exact yld_load_cells rfl (Cells.has i1)) | exact yld_indexAddr_arr rfl rfl (by omega)) ?_
          | refine WR.skip rfl rfl rfl rfl ?_))
      refine WR.last0 rfl rfl rfl (stp_store_at (b := K.nb) (i := i) (cs := ncs) (t' := tTY) (hb := ib2) (by show some (Value.pointer (some ⟨K.nb, 0 + i * 1, none⟩)) = _; rw [Nat.mul_one, Nat.zero_add]) rfl (by omega) rfl) ?_
      rintro _ w8 u8
      have hni7 : (s6.clo w5.heap.size w6.heap.size).nm i = none := by
        show s6.nm i = none
        rw [m6.gle.nm]; exact hni
      have hS8 := hS7.setNm hlt hni7 ⟨_, _, rfl⟩ ib2 u8
      have hsp : s6.pk = s.pk := m6.gle.pk
      have st8 : Sta K 2 w7 w8 := sta_nb hS7.bl.bi.nbN ib2 u8
      have l8 := Gs.sle_setNm (v := .iface tAL (pt ab)) hni7
      have hS9 := hS8.next he (.al1 ab ob _ _ y hea (Gs.setNm_same ..) (by
        show TnV w8 ob (s6.pk e.pkg) e.name _
        rw [hsp]; exact TnV.sta st8 hob7) (Has.sta st8 hab) (((rt6'.sta st7 (by omega)).sta st8 (by omega)).sle l8) ⟨_, _, rfl⟩ ((hry.sta st8 (by omega)).sle l8) ⟨_, _, rfl⟩ hya (by
        rw [unalias_step hS7.bl.vd.sh (tN_kind i) (by rw [tN_n, Int.toNat_natCast]; exact he) hea]; exact hyu) fun hy1 => by
        obtain ⟨q1, q2, q3⟩ := hyr hy1
        exact ⟨q1, by omega⟩) fun h => by rw [hea] at h; cases h
      (repeat (first
          | refine WR.nilk ?_
          | refine WR.nil ?_
          | refine WR.yld (fun _ h => h) rfl rfl rfl rfl (fun w' hx => by obtain ⟨i1, i2, u, i3⟩ := (hFd _).1 (hx hF); first | exact zyl | (exact by first | exact yld_load_cells rfl (Cells.ty_of (Cells.has i1)) | exact yld_load_cells rfl (Cells.has i1)) | exact yld_indexAddr_arr rfl rfl (by omega)) ?_
          | refine WR.skip rfl rfl rfl rfl ?_))
      have hln6 := m6.len
      refine zst ?_
      exact ⟨i + 1, by omega, ⟨rfl, by omega, _, _, hS9, fun n e' he' ha' hn' => by
        show (if n = i then _ else s6.nm n) = none
        rw [if_neg (by omega), m6.gle.nm]
        exact hal n e' he' ha' (by omega), by rw [List.length_append]; omega⟩, sub_of ⟨rfl, rfl, rfl, rfl, rfl, trivial⟩⟩
  · rw [show decide ((i : Int) < (K.D.length : Int)) = false by simpa using hlt]
    obtain rfl : i = K.D.length := by omega
    rw [List.take_of_length_le (Nat.le_refl _)] at hlnk
    have hms : MsI K s wk wk.heap.size (cntM K.D 0 0) (fun _ => .slice none 0 0) (fun _ => []) := ⟨fun n e he ha => by
      obtain ⟨b, ob, T, ub, h1, h2, h3, h4⟩ := hS.no n e he ha (List.getElem?_eq_some_iff.1 he).1
      exact ⟨b, ob, T, ub, h1, h2, h3, h4, Own.nil .., by unfold cntM; simp; try omega, by unfold cntM; simp; try omega, fun q m f _ hf => by simp at hf⟩, fun n n' g _ h => (by cases h), fun n d _ h => (by cases h), fun n g h => (by cases h)⟩
    have hz := hS.bel.size
    have hb4 := build4 (a := a) (cp := cp) (p := p) hS.bl hS.dc hms (fun d hd => Nat.lt_of_lt_of_le (hP d hd) hz) hlnk (hd.same fun b hb => hS.bel.block b (hp b hb)) hp
    obtain ⟨c, hc1, hc2⟩ := hb4
    (repeat ((fail_if_success guard_target =~ gW (.seq (.region 15 _ _) _)); (fail_if_success guard_target =~ gW (.seq (.seq (.region 15 _ _) _) _)); refine zs1 ?_))
    exact W.useA (e' := [(0, .slice a K.D.length cp), (3, pt bb)]) ⟨c, hc1, hc2.mono (fin_imp fun v w' ⟨v1, k0, s', msv, mfb, k1, k2, k3, k4, _⟩ => ⟨v1, k0, s', _, msv, mfb, k1, hS.bel.trans k2, hS.bl.hN, k3, k4⟩)⟩ rfl ⟨rfl, rfl, trivial⟩
end Go.Proofs.YtpiegpegjbmlkaaGreatDoor
namespace Go.Proofs.YtpiegpegjbmlkaaGreatDoor
open Go Go.Kd
set_option maxRecDepth 100000

/-- the state when types are named -/
structure NSt (K : Cfg) (P : Nat → Prop) (w0 : World) (bb k : Nat) (w : World) (s : Gs) : Prop where
  bel : RowKit.Below K.N w0 w
  bl : BL K P s w bb []
  df : ∀ (n : Nat) e, K.D[n]? = some e → e.al = false → n < k → ∃ b ob, s.nm n = some (.iface tNP (pt b)) ∧ s.g b = some (tN n) ∧ TnV w ob (s.pk e.pkg) e.name (.iface tNP (pt b)) ∧ Has w b (.cells (nmc (pt ob) true 0 0 .nilIface .nilIface (.slice none 0 0)) tNM)
  no : ∀ (n : Nat) e, K.D[n]? = some e → (e.al = true ∨ k ≤ n) → s.nm n = none
section
variable {K : Cfg} {P : Nat → Prop} {w0 w w' : World} {bb k : Nat} {s : Gs}
theorem NSt.ext (x : Ext w w') (h : NSt K P w0 bb k w s) : NSt K P w0 bb k w' s := ⟨bel_ext h.bel x h.bl.hN, h.bl.ext x, fun n e he ha hn => by
  obtain ⟨b, ob, h1, h2, h3, h4⟩ := h.df n e he ha hn
  exact ⟨b, ob, h1, h2, Has.ext' x h3, h4.ext' x⟩, h.no⟩
/-- type k is named -/
theorem NSt.add (h : NSt K P w0 bb k w s) {e : De} (he : K.D[k]? = some e) (hal : e.al = false) {b ob : Nat} (hg : s.g b = none) (hb : Has w b (.cells (nmc (pt ob) true 0 0 .nilIface .nilIface (.slice none 0 0)) tNM)) (hNb : K.N ≤ b) (ht : TnV w ob (s.pk e.pkg) e.name (.iface tNP (pt b)))
    {cs : Array Value} (hcs : Has w K.nb (.cells cs tTY)) (u : Upd w K.nb (.cells (cs.setIfInBounds k (.iface tNP (pt b))) tTY) w') : NSt K P w0 bb (k + 1) w' ((s.set b (tN k)).setNm k (.iface tNP (pt b))) := by
  have hk := (List.getElem?_eq_some_iff.1 he).1
  have hn := h.no k e he (.inr (Nat.le_refl _))
  have h1 := h.bl.setG (t := tN k) hg hb.lt hNb (by rintro (h | ⟨h, _⟩) <;> cases h)
  have hn1 : (s.set b (tN k)).nm k = none := hn
  have l1 : s.sle (s.set b (tN k)) := (Gs.gle_set hg).sle
  have l := l1.trans (Gs.sle_setNm (v := .iface tNP (pt b)) hn1)
  have hN : ∀ {d t : Nat} {cs' : Array Value}, t ≠ tTY → Has w d (.cells cs' t) → Has w' d (.cells cs' t) := fun ht hh => ⟨(u.oth _ (Has.tne hh hcs ht)).trans hh.at_⟩
  refine ⟨bel_upd h.bel u h.bl.bi.nbN, h1.setNm hk hn1 ⟨_, _, rfl⟩ hcs u, fun n e' he' ha hn' => ?_, fun n e' he' ha => ?_⟩
  · by_cases hnk : n = k
    · subst hnk
      rw [he] at he'
      cases he'
      exact ⟨b, ob, Gs.setNm_same .., Gs.set_same .., hN (by decide) ht, hN (by decide) hb⟩
    · obtain ⟨b', ob', k1, k2, k3, k4⟩ := h.df n e' he' ha (by omega)
      exact ⟨b', ob', l.le.nm _ _ k1, l.le.g _ _ k2, hN (by decide) k3, hN (by decide) k4⟩
  · have hne : n ≠ k := fun e0 => by
      subst e0
      rw [he] at he'
      cases he'
      rcases ha with h | h
      · rw [hal] at h; cases h
      · omega
    show (if n = k then _ else s.nm n) = none
    rw [if_neg hne]
    exact h.no n e' he' (ha.imp id fun h => by omega)
/-- an alias is passed by -/
theorem NSt.skip (h : NSt K P w0 bb k w s) {e : De} (he : K.D[k]? = some e) (hal : e.al = true) : NSt K P w0 bb (k + 1) w s := ⟨h.bel, h.bl, fun n e' he' ha hn' => by
  by_cases hnk : n = k
  · subst hnk
    rw [he] at he'
    cases he'
    rw [hal] at ha; cases ha
  · exact h.df n e' he' ha (by omega), fun n e' he' ha => h.no n e' he' (ha.imp id fun h => by omega)⟩
theorem NSt.lst (h : NSt K P w0 bb K.D.length w s) : LSt K P w0 bb 0 w s [] := ⟨h.bel, h.bl, fun n e he => by
  rw [decide_eq_false (Nat.not_lt_zero n)]
  cases ha : e.al
  · obtain ⟨b, ob, h1, h2, h3, h4⟩ := h.df n e he ha (List.getElem?_eq_some_iff.1 he).1
    exact .def0 b ob ha h1 h2 h3 h4
  · exact .al0 ha, fun n e _ _ hn => absurd hn (Nat.not_lt_zero n)⟩
end

set_option maxHeartbeats 4000000 in
theorem build2 {K : Cfg} {P : Nat → Prop} {s0 : Gs} {w0 : World} {bb : Nat} {a : Option Addr} {cp : Nat} {p : Nat → Prop} (hL0 : NSt K P w0 bb 0 w0 s0) (hP : ∀ d, P d → d < w0.heap.size) (hd : DsV w0 p (.slice a K.D.length cp) K.D) (hp : ∀ b, p b → b < K.N) :
    ∃ c, dropA 2 (bodyA Tryz.f44) = some c ∧ W Tryz.prog 148 c (fin Tryz.prog Tryz.f44 (Ret (BuildR' K w0 bb))) [] [(0, .slice a K.D.length cp), (3, pt bb)] w0 := by
  have hDl : K.D.length ≤ 16777216 := by
    have := len_wtD K.D
    have := hL0.bl.wd
    omega
  refine ⟨_, rfl, ?_⟩
  refine zst ?_
  refine W.loop (σ := Nat) (fun k => [(27, .int .i64 k), (26, .int .i64 K.D.length), (25, .slice a K.D.length cp), (3, pt bb), (0, .slice a K.D.length cp)])
    (fun k D' wk => D' = [] ∧ k ≤ K.D.length ∧ ∃ s, NSt K P w0 bb k wk s)
    (fun k => K.D.length - k) 0 ⟨rfl, Nat.zero_le _, s0, hL0⟩ (by exact sub_of ⟨rfl, rfl, rfl, rfl, rfl, trivial⟩) ?_
  rintro i D' wk ⟨rfl, hi, s, hS⟩
  refine zst ?_
  by_cases hlt : i < K.D.length
  · rw [show decide ((i : Int) < (K.D.length : Int)) = true by simpa using hlt]
    have he := List.getElem?_eq_getElem hlt
    generalize K.D[i] = e at he
    obtain ⟨b, o, a3, c3, a4, c4, f, rfl, hpb, hc, hte, hms1, hms2⟩ := hd.next he
    have hck : Cells wk b (o + i * 12) (del e a3 c3 a4 c4) := Cells.sameB (hS.bel.block b (hp b hpb)) hc
    have hpkg := hS.bl.vd.pkg i e he
    have hNk := hS.bl.hN
    refine zst ?_
    refine WU.yld rfl rfl rfl (yld_load_cells rfl hck) ?_
    refine WU.stp rfl rfl rfl stp_alloc ?_
    rintro _ w2 ⟨b5, rfl, n2⟩
    refine zst ?_
    refine WU.stp0 rfl rfl (stp_store_whole rfl rfl rfl rfl) ?_
    rintro _ w3 u3
    have x3 : Ext wk w3 := (u3.ofNew n2).ext
    have ib5 : Has w3 b5 (.cells (del e a3 c3 a4 c4).toArray 51) := u3.has
    have hS3 := hS.ext x3
    clear u3 n2
    refine zst ?_
    cases hea : e.al
    · obtain ⟨vm, ncs, hbb3, hnb3, hnsz, hncell⟩ := hS3.bl.nr
      obtain ⟨c0, y0, hc0, _⟩ := hS3.bl.bi.pkg 0 (.inl rfl)
      obtain ⟨c1, y1, hc1, _⟩ := hS3.bl.bi.pkg 1 (.inr rfl)
      refine zst ?_
      obtain ⟨F, hFd⟩ : ∃ F : World → Prop, ∀ W, F W ↔ (Has W b5 (.cells (del e a3 c3 a4 c4).toArray 51) ∧ ∃ u, Has W bb (.cells #[s.pk 0, s.pk 1, .slice (some ⟨K.nb, 0, none⟩) K.D.length K.D.length, s.er, u] tBU)) := ⟨fun W => (Has W b5 (.cells (del e a3 c3 a4 c4).toArray 51) ∧ ∃ u, Has W bb (.cells #[s.pk 0, s.pk 1, .slice (some ⟨K.nb, 0, none⟩) K.D.length K.D.length, s.er, u] tBU)), fun _ => Iff.rfl⟩
      refine W.regR (R := fun a b => F a → F b) (fun _ h => h) (fun _ _ _ h k x => k (h x)) [(0, .q), (1, .q), (2, .q), (3, .q), (4, .q), (5, .q), (6, .q), (7, .l), (8, .l), (9, .q), (10, .q), (11, .z)] (by kernel_rfl) (by kernel_rfl) rfl ?_
      intro w4 x4 _
      have hF : F w4 := (hFd _).2 ⟨ib5.ext' x4, vm, hbb3.ext' x4⟩
      have hS4 := hS3.ext x4
      have hb4 := hbb3.ext' x4
      have hnb4 := hnb3.ext' x4
      have ib4 := ib5.ext' x4
      (repeat (first
          | refine WR.nilk ?_
          | refine WR.nil ?_
          | refine WR.yld (fun _ h => h) rfl rfl rfl rfl (fun w' hx => by obtain ⟨i1, u, i3⟩ := (hFd _).1 (hx hF); first | exact zyl | (exact by exact yld_load_cells rfl (Cells.has i1)) | exact yld_indexAddr_arr rfl rfl (by omega)) ?_
          | refine WR.skip rfl rfl rfl rfl ?_))
      refine WR.stp rfl rfl rfl rfl (stp_call rfl (c_name bb (s.pk 0) (s.pk 1) _ s.er vm e a3 c3 a4 c4 (fun k => match k with | 0 => some ⟨c0, 0, none⟩ | _ => some ⟨c1, 0, none⟩) w4 hc0 hc1 hb4 hpkg)) ?_
      rintro _ w5 ⟨ob, rfl, hobge, hob, x5⟩
      have hF : F w5 := by
        obtain ⟨i1, u, i3⟩ := (hFd _).1 hF
        exact (hFd _).2 ⟨i1.ext' x5, u, i3.ext' x5⟩
      refine ⟨fun _ => hF, ?_⟩
      have hob5 : TnV w5 ob (s.pk e.pkg) e.name .nilIface := by
        rcases hpkg with h | h
        · rw [h] at hob ⊢; rw [hc0]; exact hob
        · rw [h] at hob ⊢; rw [hc1]; exact hob
      (repeat (first
          | refine WR.nilk ?_
          | refine WR.nil ?_
          | refine WR.yld (fun _ h => h) rfl rfl rfl rfl (fun w' hx => by obtain ⟨i1, u, i3⟩ := (hFd _).1 (hx hF); first | exact zyl | (exact by exact yld_load_cells rfl (Cells.has i1)) | exact yld_indexAddr_arr rfl rfl (by omega)) ?_
          | refine WR.skip rfl rfl rfl rfl ?_))
      refine WR.stp rfl rfl rfl rfl (stp_call rfl (c_NewNamed ob (s.pk e.pkg) e.name w5 hob5)) ?_
      rintro _ w6 ⟨nb, rfl, hnbge, hnb, hob6, x6⟩
      have x46 : Ext w4 w6 := ⟨x5.below.trans (x6.mono hobge)⟩
      have hF : F w6 := (hFd _).2 ⟨ib4.ext' x46, vm, hb4.ext' x46⟩
      refine ⟨fun _ => hF, ?_⟩
      have hS6 := hS4.ext x46
      have hnb6 := hnb4.ext' x46
      have hge4 : w4.heap.size ≤ nb := by have := x5.size; omega
      have hg6 := hS4.bl.bi.fresh hge4
      (repeat (first
          | refine WR.nilk ?_
          | refine WR.nil ?_
          | refine WR.yld (fun _ h => h) rfl rfl rfl rfl (fun w' hx => by obtain ⟨i1, u, i3⟩ := (hFd _).1 (hx hF); first | exact zyl | (exact by exact yld_load_cells rfl (Cells.has i1)) | exact yld_indexAddr_arr rfl rfl (by omega)) ?_
          | refine WR.skip rfl rfl rfl rfl ?_))
      refine WR.last0 rfl rfl rfl (stp_store_at (b := K.nb) (i := i) (cs := ncs) (t' := tTY) (hb := hnb6) (by show some (Value.pointer (some ⟨K.nb, 0 + i * 1, none⟩)) = _; rw [Nat.mul_one, Nat.zero_add]) rfl (by omega) rfl) ?_
      rintro _ w8 u8
      have hS8 := hS6.add he hea hg6 hnb (by have := hS4.bl.hN; omega) hob6 hnb6 u8
      (repeat (first
          | refine WR.nilk ?_
          | refine WR.nil ?_
          | refine WR.yld (fun _ h => h) rfl rfl rfl rfl (fun w' hx => by obtain ⟨i1, u, i3⟩ := (hFd _).1 (hx hF); first | exact zyl | (exact by exact yld_load_cells rfl (Cells.has i1)) | exact yld_indexAddr_arr rfl rfl (by omega)) ?_
          | refine WR.skip rfl rfl rfl rfl ?_))
      refine zst ?_
      exact ⟨i + 1, by omega, ⟨rfl, by omega, _, hS8⟩, sub_of ⟨rfl, rfl, rfl, rfl, rfl, trivial⟩⟩
    · refine zst ?_
      exact ⟨i + 1, by omega, ⟨rfl, by omega, _, hS3.skip he hea⟩, sub_of ⟨rfl, rfl, rfl, rfl, rfl, trivial⟩⟩
  · rw [show decide ((i : Int) < (K.D.length : Int)) = false by simpa using hlt]
    obtain rfl : i = K.D.length := by omega
    have hz := hS.bel.size
    have hL : LSt K P wk bb 0 wk s [] := ⟨RowKit.Below.refl _ _, hS.lst.bl, hS.lst.dc, hS.lst.no⟩
    obtain ⟨c, hc1, hc2⟩ := build3 (a := a) (cp := cp) (p := p) hL (fun n e h1 h2 => hS.no n e h1 (.inl h2)) (fun d hd => Nat.lt_of_lt_of_le (hP d hd) hz) (hd.same fun b hb => hS.bel.block b (hp b hb)) hp
    (repeat ((fail_if_success guard_target =~ gW (.seq (.region 8 _ _) _)); (fail_if_success guard_target =~ gW (.seq (.seq (.region 8 _ _) _) _)); refine zs1 ?_))
    exact W.useA (e' := [(0, .slice a K.D.length cp), (3, pt bb)]) ⟨c, hc1, hc2.mono (fin_imp fun v w' ⟨v1, k0, s', base, msv, mfb, k1, k2, k3, k4, k5⟩ => ⟨v1, k0, s', base, msv, mfb, k1, hS.bel.trans k2, k3, k4, k5⟩)⟩ rfl ⟨rfl, rfl, trivial⟩
end Go.Proofs.YtpiegpegjbmlkaaGreatDoor

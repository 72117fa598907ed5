/- The walks and the plain laws, part 5. -/
import Derived.Test.YtlemfkbhcleopaaGreatDoorY4
import Derived.Test.YtlemfkbhcleopaaGreatDoorCards
import Derived.OpenShut
import Derived.Test.YtlemfkbhcleopaaGreatDoorY1
import Derived.Lib.LaidTab
namespace Go.Kd
theorem W.join {P : Program} {n : Nat} {Q : Post} {D : List Deferred} {e : Env} {w : World} {x : Code} {K : List Deferred → Env → World → Prop} (I : Env → World → Prop) (h1 : W P n x (fun x' D' e' w' => x' = .normal ∧ D' = [] ∧ I e' w') D e w) (h2 : ∀ e' w', I e' w' → K [] e' w') : W P n x (thn K Q) D e w :=
  h1.mono fun x' D' e' w' ⟨hx, hD, hI⟩ => by subst hx hD; exact h2 e' w' hI
end Go.Kd
namespace Go.Proofs.YtlemfkbhcleopaaGreatDoor
open Go Go.Kd
set_option maxRecDepth 100000

theorem wtM_take {l : List Me} {j : Nat} {m : Me} (h : l[j]? = some m) : wtM (l.take j) + wt m.fn = wtM (l.take (j + 1)) := by
  rw [List.take_add_one, h, Option.toList_some]
  unfold wtM
  simp
theorem wtM_le (l : List Me) (j : Nat) : wtM (l.take j) ≤ wtM l := by
  have : wtM (l.take j) + wtM (l.drop j) = wtM l := by
    conv => rhs; rw [← List.take_append_drop j l]
    unfold wtM
    rw [List.map_append, List.sum_append]
  omega
theorem Below.sta {K : Cfg} {l : Nat} {w0 w w' : World} (h : RowKit.Below K.N w0 w) (x : Sta K l w w') (hN : K.N ≤ w.heap.size) : RowKit.Below K.N w0 w' := h.trans ⟨x.os, x.tape, x.output, x.size, fun d hd => x.old d hd (by omega)⟩
theorem Below.ext' {N : Nat} {w0 w w' : World} (h : RowKit.Below N w0 w) (x : Ext w w') (hN : N ≤ w.heap.size) : RowKit.Below N w0 w' := bel_ext h x hN
/-- how many methods a declared type has -/
def lenM (D : List De) (n : Nat) : Nat := ((D[n]?).map fun e => e.ms.length).getD 0
theorem lenM_at {D : List De} {n : Nat} {e : De} (h : D[n]? = some e) : lenM D n = e.ms.length := by unfold lenM; rw [h]; rfl
/-- .. as far as they are made -/
def cntM (D : List De) (i j n : Nat) : Nat := if n < i then lenM D n else if n = i then j else 0
/-- the state when methods are declared -/
structure MSt (K : Cfg) (P : Nat → Prop) (s0 : Gs) (w0 : World) (bb base i j : Nat) (wk : World) (s : Gs) (made : List Nat) (msv : Nat → Value) (mfb : Nat → List Nat) : Prop where
  bel : RowKit.Below K.N w0 wk
  bl : BL K P s wk bb made
  dc : DclI K s wk K.D.length
  ms : MsI K s wk base (cntM K.D i j) msv mfb
  nm : s.nm = s0.nm
  bs : base ≤ wk.heap.size
section
variable {K : Cfg} {P : Nat → Prop} {s0 : Gs} {w0 wk w' : World} {bb base i j : Nat} {s : Gs} {md : List Nat} {msv : Nat → Value} {mfb : Nat → List Nat}
theorem MSt.ext (x : Ext wk w') (h : MSt K P s0 w0 bb base i j wk s md msv mfb) : MSt K P s0 w0 bb base i j w' s md msv mfb :=
  ⟨bel_ext h.bel x h.bl.hN, h.bl.ext x, h.dc.sta (l := 0) (.of_ext x) (by omega), h.ms.ext x, h.nm, Nat.le_trans h.bs x.size⟩
theorem MSt.made {s' : Gs} {n : Nat} {new : List Nat} (h : MSt K P s0 w0 bb base i j wk s md msv mfb) (m : Made K s wk bb md n s' new w') : MSt K P s0 w0 bb base i j w' (s'.clo wk.heap.size w'.heap.size) (md ++ new) msv mfb := by
  have hg : s.gle (s'.clo wk.heap.size w'.heap.size) := m.gle.trans (Gs.gle_seal ..)
  have hown : ∀ n d, wk.heap.size ≤ d → (msv n).ownBlock ≠ some d := fun n d hd e => by
    have := (h.ms.lt n d e).2
    omega
  exact ⟨Below.sta h.bel m.sta h.bl.hN, (h.bl.made m).clo _ (Nat.le_refl _), (h.dc.sta m.sta (by omega)).gle hg, (h.ms.sta m.sta (by omega)).gle hg fun d hd => hd.elim (fun hd => (m.sn d hd).imp id fun k n => hown n d k.1) fun k => .inr fun n => hown n d k.1, by
    show s'.nm = s0.nm
    rw [m.gle.nm]; exact h.nm, Nat.le_trans h.bs m.sta.size⟩
/-- one more method -/
theorem MSt.add {b ob f : Nat} {u ms' : Value} {e : De} {m : Me} (h : MSt K P s0 w0 bb base i j wk s md msv mfb) (he : K.D[i]? = some e) (hi : s.nm i = some (.iface tNP (pt b))) (hgb : s.g b = some (tN i)) (hm : e.ms[j]? = some m)
    (a : AddC K wk w' b base (pt ob) u (msv i) ms' (mfb i)) (ho' : Own w' base tFN 1 ms' (((mfb i) ++ [f]).map fun b => [pt b])) (hf : MeO K s wk b e m f) (hP : ∀ d, P d → d < base) (hbase : K.N ≤ base) :
    MSt K P s0 w0 bb base i (j + 1) w' s md (fun n => if n = i then ms' else msv n) (fun n => if n = i then mfb i ++ [f] else mfb n) := by
  have hsl : ∀ d, s.sl d → (msv i).ownBlock ≠ some d := h.ms.sl i
  have hbN : K.N ≤ b := (h.bl.ii b _ hgb).1
  have hPn : ∀ d, P d → (msv i).ownBlock ≠ some d := fun d hd e => by
    have := hP d hd
    have := (a.ho.lt d e).1
    omega
  have hN := h.bl.hN
  have hc : cntM K.D i j i = j := by unfold cntM; simp
  have h1 := h.ms.add he hi hgb a (by rw [hc]; exact hm) ho' hf h.bl.bi.sll
  have hce : (fun n => if n = i then cntM K.D i j i + 1 else cntM K.D i j n) = cntM K.D i (j + 1) := by
    funext n
    unfold cntM
    by_cases hni : n = i
    · subst hni; simp
    · simp [hni]
  rw [hce] at h1
  exact ⟨h.bel.trans ⟨a.ad.os, a.ad.tape, a.ad.output, a.ad.size, fun d hd => a.ad.oth d (by omega) (by omega) fun e => by have := (a.ho.lt d e).1; omega⟩, h.bl.add a hPn hsl hbN hbase, h.dc.add a hsl, h1, h.nm, Nat.le_trans h.bs a.ad.size⟩
end
theorem IIP.all {K : Cfg} {s : Gs} {w : World} {P : Nat → Prop} {made : List Nat} (h : IIP K s w P made) : II K s w made := fun c u hc => by
  obtain ⟨r1, r2⟩ := h c u hc
  refine ⟨r1, fun hu => ?_⟩
  obtain ⟨p1, p2, p3⟩ := r2 hu
  exact ⟨p1, p2, p3.imp (fun k => k.tr (.mono fun _ _ _ => trivial) (.mono fun _ _ h => h)) id⟩
theorem cntM_end {D : List De} {i : Nat} {e : De} (h : D[i]? = some e) : cntM D i e.ms.length = cntM D (i + 1) 0 := by
  funext n
  unfold cntM
  by_cases h1 : n < i
  · rw [if_pos h1, if_pos (by omega)]
  · by_cases h2 : n = i
    · subst h2; rw [if_neg (by omega), if_pos rfl, if_pos (by omega), lenM_at h]
    · rw [if_neg h1, if_neg h2, if_neg (by omega)]
      by_cases h3 : n = i + 1
      · rw [if_pos h3]
      · rw [if_neg h3]
/-- what build answers -/
def BuildR (K : Cfg) (s0 : Gs) (w0 : World) (bb base : Nat) (r : Value) (w' : World) : Prop := ∃ s msv mfb, r = pt bb ∧ RowKit.Below K.N w0 w' ∧ Blt K s w' bb ∧ MsI K s w' base (cntM K.D K.D.length 0) msv mfb ∧ s.nm = s0.nm

set_option maxHeartbeats 8000000 in
theorem build4 {K : Cfg} {P : Nat → Prop} {s0 : Gs} {w0 : World} {bb : Nat} {made0 : List Nat} {a : Option Addr} {cp : Nat} {p : Nat → Prop} (hbl0 : BL K P s0 w0 bb made0) (hdc0 : DclI K s0 w0 K.D.length) (hms0 : MsI K s0 w0 w0.heap.size (cntM K.D 0 0) (fun _ => .slice none 0 0) (fun _ => []))
    (hP : ∀ d, P d → d < w0.heap.size) (hln0 : made0.length ≤ wtD K.D) (hd : DsV w0 p (.slice a K.D.length cp) K.D) (hp : ∀ b, p b → b < K.N) :
    ∃ c, dropA 15 (bodyA Tryz.f38) = some c ∧ W Tryz.prog 148 c (fin Tryz.prog Tryz.f38 (Ret (BuildR K s0 w0 bb w0.heap.size))) [] [(0, .slice a K.D.length cp), (3, pt bb)] w0 := by
  have hDl : K.D.length ≤ 16777216 := by
    have h1 : ∀ D : List De, D.length ≤ wtD D := fun D => by
      induction D with
      | nil => exact Nat.zero_le _
      | cons e r ih =>
        have := wtD_app [e] r
        have h2 : 1 ≤ wtD [e] := by unfold wtD wtDe; have := wt_pos e.ty; simp; omega
        simp only [List.length_cons]
        rw [List.singleton_append] at this
        omega
    have := h1 K.D
    have := hbl0.wd
    omega
  have hwd := hbl0.wd
  have hN0 := hbl0.hN
  refine ⟨_, rfl, ?_⟩
  refine zst ?_
  refine W.loop (σ := Nat) (fun k => [(88, .int .i64 k), (87, .int .i64 K.D.length), (86, .slice a K.D.length cp), (3, pt bb)])
    (fun k D' wk => D' = [] ∧ k ≤ K.D.length ∧ ∃ s made msv mfb, MSt K P s0 w0 bb w0.heap.size k 0 wk s made msv mfb ∧ made.length ≤ wtD K.D + wtD (K.D.take k))
    (fun k => K.D.length - k) 0 ⟨rfl, Nat.zero_le _, s0, made0, _, _, ⟨RowKit.Below.refl _ _, hbl0, hdc0, hms0, rfl, Nat.le_refl _⟩, by omega⟩ (by exact sub_of ⟨rfl, rfl, rfl, rfl, trivial⟩) ?_
  rintro i D' wk ⟨rfl, hi, s, made, msv, mfb, hS, hlnk⟩
  refine zst ?_
  by_cases hlt : i < K.D.length
  · rw [show decide ((i : Int) < (K.D.length : Int)) = true by simpa using hlt]
    have he := List.getElem?_eq_getElem hlt
    generalize K.D[i] = e at he
    obtain ⟨b, o, a3, c3, a4, c4, f, rfl, hpb, hc, hte, hms1, hms2⟩ := hd.next he
    have hme : MesV w0 p a4 e.ms := ⟨f, hms1, hms2⟩
    have hck : Cells wk b (o + i * 12) (del e a3 c3 a4 c4) := Cells.sameB (hS.bel.block b (hp b hpb)) hc
    have hmh := hbl0.vd.ms i e he
    have hpkg := hbl0.vd.pkg i e he
    have hwe := wtD_take he
    have hwl := wtD_le K.D (i + 1)
    refine zst ?_
    refine WU.yld rfl rfl rfl (yld_load_cells rfl hck) ?_
    refine WU.stp rfl rfl rfl stp_alloc ?_
    rintro _ w2 ⟨b9, rfl, n2⟩
    refine zst ?_
    refine WU.stp0 rfl rfl (stp_store_whole rfl rfl rfl rfl) ?_
    rintro _ w3 u3
    have x3 : Ext wk w3 := (u3.ofNew n2).ext
    have ib9 : Has w3 b9 (.cells (del e a3 c3 a4 c4).toArray 34) := u3.has
    have hS3 := hS.ext x3
    clear u3 n2
    have hml : e.ms.length ≤ 16777216 := by
      have := wtM_len e.ms
      have : wtDe e = wt e.ty + (e.name.size + wtM e.ms) := rfl
      omega
    have hwde : wtDe e = wt e.ty + (e.name.size + wtM e.ms) := rfl
    refine zst ?_
    refine W.loop (σ := Nat) (fun j => [(96, .int .i64 j), (95, .int .i64 e.ms.length), (94, .slice a4 e.ms.length c4), (9, pt b9), (8, .int .i64 i), (88, .int .i64 i), (87, .int .i64 K.D.length), (86, .slice (some ⟨b, o, none⟩) K.D.length cp), (3, pt bb)])
      (fun j D' wj => D' = [] ∧ j ≤ e.ms.length ∧ Has wj b9 (.cells (del e a3 c3 a4 c4).toArray 34) ∧ ∃ s made msv mfb, MSt K P s0 w0 bb w0.heap.size i j wj s made msv mfb ∧ made.length ≤ wtD K.D + wtD (K.D.take i) + wtM (e.ms.take j))
      (fun j => e.ms.length - j) 0 ⟨rfl, Nat.zero_le _, ib9, s, made, msv, mfb, hS3, by omega⟩ (by exact sub_of ⟨rfl, rfl, rfl, rfl, rfl, rfl, rfl, rfl, rfl, trivial⟩) ?_
    clear hS hS3 hck ib9 hlnk x3
    clear s made msv mfb wk w2 w3
    rintro j D' wj ⟨rfl, hj, ib9, s, made, msv, mfb, hS, hlnj⟩
    refine zst ?_
    by_cases hltj : j < e.ms.length
    · rw [show decide ((j : Int) < (e.ms.length : Int)) = true by simpa using hltj]
      have hmj := List.getElem?_eq_getElem hltj
      generalize e.ms[j] = m at hmj
      have hal : e.al = false := (hmh.kind fun h => by rw [h] at hltj; simp at hltj).1
      obtain ⟨hmu, hm8, hmsh, hmlg⟩ := hmh.fn m (List.mem_of_getElem? hmj)
      have hwm := wtM_take hmj
      have hwm2 := wtM_le e.ms (j + 1)
      obtain ⟨bm, om, am, cm, rfl, hpbm, hcm, htm⟩ := hme.next hmj
      have hcmj : Cells wj bm (om + j * 9) (mel m am cm) := Cells.sameB (hS.bel.block bm (hp bm hpbm)) hcm
      refine zst ?_
      refine WU.yld rfl rfl rfl (yld_load_cells rfl hcmj) ?_
      refine WU.stp rfl rfl rfl stp_alloc ?_
      rintro _ w2 ⟨b11, rfl, n2⟩
      refine WU.stp0 rfl rfl (stp_store_whole rfl rfl rfl rfl) ?_
      rintro _ w3 u3
      have x3 : Ext wj w3 := (u3.ofNew n2).ext
      have ib11 : Has w3 b11 (.cells (mel m am cm).toArray 36) := u3.has
      have jb9 := ib9.ext' x3
      have hS3 := hS.ext x3
      clear u3 n2
      obtain ⟨nb, nob, nT, nub, hnm, hng, hnv, hnt, hno, hnl, hnc, hnq⟩ := hS3.ms.nam i e he hal
      obtain ⟨vm, ncs, hbb3, hnb3, hnsz, hncell⟩ := hS3.bl.nr
      have hnci := hncell i _ hnm
      obtain ⟨pc, px, hpc, hpk⟩ := hS3.bl.bi.pkg e.pkg hpkg
      refine zst ?_
      refine WU.yld rfl rfl rfl (yld_load_c rfl (by rw [Nat.mul_one, Nat.zero_add]; exact cell_of hnb3 hnci)) ?_
      refine zst ?_
      refine W.join (fun e' w' => Ext w3 w' ∧ ∃ rt, IsI rt ∧ (m.ptr = false → rt = .iface tNP (pt nb)) ∧ (m.ptr = true → ∃ pb, rt = .iface tPP (pt pb) ∧ Has w' pb (.cells #[.iface tNP (pt nb)] tPT)) ∧
        subs e' [(13, rt), (12, pt nb), (11, pt b11), (96, .int .i64 j), (95, .int .i64 e.ms.length), (94, .slice (some ⟨bm, om, none⟩) e.ms.length c4), (9, pt b9), (8, .int .i64 i), (88, .int .i64 i), (87, .int .i64 K.D.length), (86, .slice (some ⟨b, o, none⟩) K.D.length cp), (3, pt bb)]) ?_ ?_
      · cases hmp : m.ptr
        · refine zst ?_
          exact ⟨rfl, rfl, Ext.rfl' _, _, ⟨_, _, rfl⟩, fun _ => rfl, fun h => (by cases h), rfl, rfl, rfl, rfl, rfl, rfl, rfl, rfl, rfl, rfl, rfl, rfl, trivial⟩
        · refine zst ?_
          refine WU.stp rfl rfl rfl (stp_call rfl (c_NewPointer tNP (pt nb) w3)) ?_
          rintro _ w4 ⟨pb, rfl, n4⟩
          refine zst ?_
          exact ⟨rfl, rfl, n4.ext, _, ⟨_, _, rfl⟩, fun h => (by cases h), fun _ => ⟨pb, rfl, n4.has⟩, rfl, rfl, rfl, rfl, rfl, rfl, rfl, rfl, rfl, rfl, rfl, rfl, trivial⟩
      · rintro e' w4 ⟨x4, rt, ⟨T, rb, rfl⟩, hrf, hrp, hsub⟩
        refine W.sub (e' := [(13, .iface T (pt rb)), (12, pt nb), (11, pt b11), (96, .int .i64 j), (95, .int .i64 e.ms.length), (94, .slice (some ⟨bm, om, none⟩) e.ms.length c4), (9, pt b9), (8, .int .i64 i), (88, .int .i64 i), (87, .int .i64 K.D.length), (86, .slice (some ⟨b, o, none⟩) K.D.length cp), (3, pt bb)]) ?_ (sub_of hsub)
        obtain ⟨q, hq, hq2⟩ : ∃ q : Nat, e.pkg = q ∧ q < 2 := by
          rcases hpkg with h | h
          · exact ⟨0, h, by omega⟩
          · exact ⟨1, h, by omega⟩
        have pkc : ∀ (W : World) (u v : Value), Has W bb (.cells #[s.pk 0, s.pk 1, u, s.er, v] tBU) → W.cell? ⟨bb, q, none⟩ = some (pt pc) := fun W u v h => by
          rw [← hpc, hq]
          match q, hq2 with
          | 0, _ => exact cell_of h rfl
          | 1, _ => exact cell_of h rfl
        have hdel : del e a3 c3 (some ⟨bm, om, none⟩) c4 = [.string e.name, .int .i64 q, .bool e.al, .int .i64 e.ty.kind, .int .i64 e.ty.n, .int .i64 e.ty.count, .bool e.ty.vr, .slice a3 e.ty.elems.length c3, .string e.ty.name, .string e.ty.tag, .bool e.ty.emb, .slice (some ⟨bm, om, none⟩) e.ms.length c4] := by unfold del; rw [hq]
        have jb9q := jb9
        rw [hdel] at jb9q
        have jb4 := jb9q.ext' x4
        have hbb4 := hbb3.ext' x4
        refine zst ?_
        refine W.regD [(0, .q), (1, .q), (2, .q), (3, .q), (4, .q), (5, .q), (6, .q), (7, .q), (8, .l), (9, .q)] (by kernel_rfl) (by kernel_rfl) rfl ?_
        intro w5 x5 _
        have jb5 := jb4.ext' x5
        have hbb5 := hbb4.ext' x5
        refine zsd ?_
        refine WD.yld rfl rfl rfl rfl (yld_indexAddr_arr (i := q) rfl rfl (by omega)) ?_
        refine zsd ?_
        refine WD.yld rfl rfl rfl rfl (yld_load_c rfl (pkc _ _ _ hbb5)) ?_
        refine zsd ?_
        refine WD.stp rfl rfl rfl rfl (stp_call rfl (c_NewVar 0 (some ⟨pc, 0, none⟩) eB T (pt rb) w5)) ?_
        rintro _ w6 ⟨rv, rfl, n6⟩
        refine ⟨by first | assumption | exact Ext.rfl' _ | infer_instance, ?_⟩
        refine zsd ?_
        refine zst ?_
        have x36 : Ext w3 w6 := (x4.trans x5).trans n6.ext
        have hS6 := hS3.ext x36
        have jb6 := jb9q.ext' x36
        have ib6 := ib11.ext' x36
        have hbb6 := hbb3.ext' x36
        obtain ⟨F, hFd⟩ : ∃ F : World → Prop, ∀ W, F W ↔ (Has W b9 (.cells #[.string e.name, .int .i64 q, .bool e.al, .int .i64 e.ty.kind, .int .i64 e.ty.n, .int .i64 e.ty.count, .bool e.ty.vr, .slice a3 e.ty.elems.length c3, .string e.ty.name, .string e.ty.tag, .bool e.ty.emb, .slice (some ⟨bm, om, none⟩) e.ms.length c4] 34) ∧ Has W b11 (.cells (mel m am cm).toArray 36) ∧ ∃ u, Has W bb (.cells #[s.pk 0, s.pk 1, .slice (some ⟨K.nb, 0, none⟩) K.D.length K.D.length, s.er, u] tBU)) := ⟨fun W => (Has W b9 (.cells #[.string e.name, .int .i64 q, .bool e.al, .int .i64 e.ty.kind, .int .i64 e.ty.n, .int .i64 e.ty.count, .bool e.ty.vr, .slice a3 e.ty.elems.length c3, .string e.ty.name, .string e.ty.tag, .bool e.ty.emb, .slice (some ⟨bm, om, none⟩) e.ms.length c4] 34) ∧ Has W b11 (.cells (mel m am cm).toArray 36) ∧ ∃ u, Has W bb (.cells #[s.pk 0, s.pk 1, .slice (some ⟨K.nb, 0, none⟩) K.D.length K.D.length, s.er, u] tBU)), fun _ => Iff.rfl⟩
        refine W.regR (R := fun a b => F a → F b) (fun _ h => h) (fun _ _ _ h k x => k (h x)) [(0, .q), (1, .q), (2, .q), (3, .q), (4, .q), (5, .q), (6, .q), (7, .q), (8, .q), (9, .q), (10, .q), (11, .q), (12, .q), (13, .q), (14, .q), (15, .l), (16, .l), (17, .l)] (by kernel_rfl) (by kernel_rfl) rfl ?_
        intro w7 x7 _
        have hF : F w7 := (hFd _).2 ⟨jb6.ext' x7, ib6.ext' x7, vm, hbb6.ext' x7⟩
        have hS7 := hS6.ext x7
        (repeat (first
            | refine WR.nilk ?_
            | refine WR.nil ?_
            | refine WR.yld (fun _ h => h) rfl rfl rfl rfl (fun w' hx => by obtain ⟨i1, i2, u, i3⟩ := (hFd _).1 (hx hF); first | exact zyl | (exact by first | exact yld_indexAddr_arr (i := q) rfl rfl (by omega) | exact yld_load_c rfl (pkc _ _ u i3) | exact yld_load_cells rfl (Cells.me_of (Cells.has i2))) | exact yld_indexAddr_arr rfl rfl (by omega)) ?_
            | refine WR.skip rfl rfl rfl rfl ?_))
        have hx7 : Ctx K.D K K.D.length s w7 bb made := ⟨hS7.bl.bi, fun n e he _ => hS7.dc.nms he, hS7.bl.prp, hS7.bl.gN, rfl, Nat.le_refl _⟩
        have hask : Ask K.D K.D.length w7 K p (tyc m.fn am cm) m.fn := ⟨.of_tys (htm.same fun b hb => hS7.bel.block b (hp b hb)), fun b hb => ⟨hp b hb, Nat.lt_of_lt_of_le (hp b hb) hS7.bl.hN⟩, ⟨false, hmsh⟩, hmlg⟩
        refine WR.stp rfl rfl rfl rfl (stp_call rfl (c_signature K.D K K.D.length m.fn hm8 (fun q e' he' => c_typ' K.D K K.D.length e') s w7 bb made p _ (some ⟨rv, 0, none⟩) hx7 hask (by show _ ≤ 268435456; omega))) ?_
        rintro r w8 ⟨sb, ps8, rs8, s2, new2, rfl, m8, rt8, hge8, hh8⟩
        have hF : F w8 := by
          obtain ⟨i1, i2, u, i3⟩ := (hFd _).1 hF
          exact (hFd _).2 ⟨Has.sta m8.sta i1, Has.sta m8.sta i2, Has.staB m8.sta i3⟩
        refine ⟨fun _ => hF, ?_⟩
        (repeat (first
            | refine WR.nilk ?_
            | refine WR.nil ?_
            | refine WR.yld (fun _ h => h) rfl rfl rfl rfl (fun w' hx => by obtain ⟨i1, i2, u, i3⟩ := (hFd _).1 (hx hF); first | exact zyl | (exact by first | exact yld_indexAddr_arr (i := q) rfl rfl (by omega) | exact yld_load_c rfl (pkc _ _ u i3) | exact yld_load_cells rfl (Cells.me_of (Cells.has i2))) | exact yld_indexAddr_arr rfl rfl (by omega)) ?_
            | refine WR.skip rfl rfl rfl rfl ?_))
        refine WR.stp rfl rfl rfl rfl (stp_call rfl (c_NewFunc 0 (some ⟨pc, 0, none⟩) m.fn.name sb w8)) ?_
        rintro _ w9 ⟨fb, rfl, n9⟩
        have hF : F w9 := by
          obtain ⟨i1, i2, u, i3⟩ := (hFd _).1 hF
          exact (hFd _).2 ⟨i1.ext' n9.ext, i2.ext' n9.ext, u, i3.ext' n9.ext⟩
        refine ⟨fun _ => hF, ?_⟩
        (repeat (first
            | refine WR.nilk ?_
            | refine WR.nil ?_
            | refine WR.yld (fun _ h => h) rfl rfl rfl rfl (fun w' hx => by obtain ⟨i1, i2, u, i3⟩ := (hFd _).1 (hx hF); first | exact zyl | (exact by first | exact yld_indexAddr_arr (i := q) rfl rfl (by omega) | exact yld_load_c rfl (pkc _ _ u i3) | exact yld_load_cells rfl (Cells.me_of (Cells.has i2))) | exact yld_indexAddr_arr rfl rfl (by omega)) ?_
            | refine WR.skip rfl rfl rfl rfl ?_))
        have hS9 := (hS7.made m8).ext n9.ext
        obtain ⟨nb', nob', nT', nub', hnm', hng', hnv', hnt', hno', hnl', hnc', hnq'⟩ := hS9.ms.nam i e he hal
        have hnbe : nb' = nb := by
          have h1 := (congrFun (hS9.nm.trans hS.nm.symm) i).symm.trans hnm'
          rw [hnm] at h1
          cases h1
          rfl
        subst hnbe
        have hcj : cntM K.D i j i = j := by unfold cntM; simp
        rw [hcj] at hnl'
        have hspk : (s2.clo w7.heap.size w8.heap.size).pk e.pkg = pt pc := by rw [← hpc]; exact congrFun m8.gle.pk _
        rw [hspk] at hnt'
        have hpk9 : Has w9 pc (.cells #[.string (pth e.pkg), .string px] tPK) := (Has.sta m8.sta ((hpk.ext' x36).ext' x7)).ext' n9.ext
        have hfb9 : FuncV w9 fb (pt pc) m.fn.name (.iface tSP (pt sb)) := n9.has
        have huq := hmh.unq
        have hnmu : ∀ (k : Nat) m', e.ms[k]? = some m' → (names (e.ms.map (·.fn)) ++ (if (underT K.D e.ty).kind = 7 then names (underT K.D e.ty).elems else []))[k]? = some m'.fn.name.toList := fun k m' hk => by
          have hlt := (List.getElem?_eq_some_iff.1 hk).1
          rw [List.getElem?_append_left (by unfold names; simpa using hlt)]
          unfold names
          rw [List.getElem?_map, List.getElem?_map, hk]
          rfl
        have hmeo : MeO K (s2.clo w7.heap.size w8.heap.size) w9 nb' e m fb := ⟨sb, rv, _, _, pt pc, .iface T (pt rb), 1, by rw [hspk]; exact hfb9, RT.ext n9.ext ((rt8.mono (q := (s2.clo w7.heap.size w8.heap.size).sl) fun d hd hpd => .inr ⟨hpd, hd⟩).le (Gs.gle_seal ..).le), hh8.ext' n9.ext, (Has.sta m8.sta (n6.has.ext' x7)).ext' n9.ext, hrf, fun hm => by
          obtain ⟨pb, k1, k2⟩ := hrp hm
          exact ⟨pb, k1, (Has.sta m8.sta (((k2.ext' x5).ext' n6.ext).ext' x7)).ext' n9.ext⟩⟩
        refine WR.stp rfl rfl rfl rfl (stp_call rfl (c_AddMethod nb' fb nob' pc w0.heap.size (.iface nT' (pt nub')) (msv i) (.iface tSP (pt sb)) e.name m.fn.name (pth e.pkg) px (.iface tNP (pt nb')) (mfb i) w9 hnv' hnt' hfb9 hpk9 hno' (fun q' g hg => by
                  have hql := (List.getElem?_eq_some_iff.1 hg).1
                  have hqe := List.getElem?_eq_getElem (show q' < e.ms.length by omega)
                  obtain ⟨sb', _, _, _, _, _, _, k1, _⟩ := hnq' q' _ g hqe hg
                  exact ⟨_, _, _, k1, fun heq => hmu (by
                    have := huq.un q' j _ (by omega) (hnmu q' _ hqe) (by rw [heq]; exact hnmu j m hmj)
                    rw [← heq]; exact this)⟩) hmu (by omega) hS9.bs)) ?_
        rintro _ w10 ⟨ms', hnam', ho', had⟩
        have hac : AddC K w9 w10 nb' w0.heap.size (pt nob') (.iface nT' (pt nub')) (msv i) ms' (mfb i) := ⟨hnv', hnam', hno', had, _, _, rfl⟩
        have hF : F w10 := by
          obtain ⟨i1, i2, u, i3⟩ := (hFd _).1 hF
          exact (hFd _).2 ⟨hac.has (by decide) (by decide) i1, hac.has (by decide) (by decide) i2, u, hac.has (by decide) (by decide) i3⟩
        refine ⟨fun _ => hF, ?_⟩
        (repeat (first
            | refine WR.nilk ?_
            | refine WR.nil ?_
            | refine WR.yld (fun _ h => h) rfl rfl rfl rfl (fun w' hx => by obtain ⟨i1, i2, u, i3⟩ := (hFd _).1 (hx hF); first | exact zyl | (exact by first | exact yld_indexAddr_arr (i := q) rfl rfl (by omega) | exact yld_load_c rfl (pkc _ _ u i3) | exact yld_load_cells rfl (Cells.me_of (Cells.has i2))) | exact yld_indexAddr_arr rfl rfl (by omega)) ?_
            | refine WR.skip rfl rfl rfl rfl ?_))
        have hS10 := hS9.add he hnm' hng' hmj hac ho' hmeo hP hN0
        have jb10 := ((hFd _).1 hF).1
        have hln8 := m8.len
        have hwtf := wt_eq m.fn
        refine zst ?_
        exact ⟨j + 1, by omega, ⟨rfl, by omega, by rw [hdel]; exact jb10, _, _, _, _, hS10, by rw [List.length_append]; omega⟩, sub_of ⟨rfl, rfl, rfl, rfl, rfl, rfl, rfl, rfl, rfl, trivial⟩⟩
    · rw [show decide ((j : Int) < (e.ms.length : Int)) = false by simpa using hltj]
      obtain rfl : j = e.ms.length := by omega
      rw [List.take_of_length_le (Nat.le_refl _)] at hlnj
      refine zst ?_
      refine ⟨i + 1, by omega, ⟨rfl, by omega, s, made, msv, mfb, ⟨hS.bel, hS.bl, hS.dc, by rw [← cntM_end he]; exact hS.ms, hS.nm, hS.bs⟩, by omega⟩, sub_of ⟨rfl, rfl, rfl, rfl, trivial⟩⟩
  · rw [show decide ((i : Int) < (K.D.length : Int)) = false by simpa using hlt]
    obtain rfl : i = K.D.length := by omega
    have hwl := wtD_le K.D K.D.length
    have hii := hS.bl.ii.all
    have hsc := sc_of hS.bl.bi hS.dc hS.bl.er hii hS.bl.prp hS.bl.gN hS.bl.vd.sh hS.bl.wd
    refine zst ?_
    refine WU.stp rfl rfl rfl (stp_call rfl (c_complete hS.bl.bi hsc hii (by omega))) ?_
    rintro _ w3 ⟨st3, hbi3, hii3⟩
    refine zst ?_
    exact fin1 (.inl rfl) rfl rfl ⟨s, msv, mfb, rfl, Below.sta hS.bel st3 hS.bl.hN, ⟨hbi3, hS.dc.sta st3 (by omega), hS.bl.er.sta st3 (by omega), hii3, hS.bl.prp.sta st3 hS.bl.gN, hS.bl.gN, hS.bl.vd, hS.bl.wd⟩, hS.ms.sta st3 (by omega), hS.nm⟩
end Go.Proofs.YtlemfkbhcleopaaGreatDoor
namespace Go.Proofs.YtlemfkbhcleopaaGreatDoor
open Go Go.Kd
set_option maxRecDepth 100000

theorem MeV.same {w w' : World} {p : Nat → Prop} (hs : ∀ b, p b → w'.heap[b]? = w.heap[b]?) {cs : List Value} {m : Me} (h : MeV w p cs m) : MeV w' p cs m := by
  obtain ⟨ts, h1, h2⟩ := h
  exact ⟨ts, h1, h2.same hs⟩
theorem DeV.same {w w' : World} {p : Nat → Prop} (hs : ∀ b, p b → w'.heap[b]? = w.heap[b]?) {cs : List Value} {e : De} (h : DeV w p cs e) : DeV w' p cs e := by
  obtain ⟨ts, a, cp, f, h1, h2, h3, h4⟩ := h
  exact ⟨ts, a, cp, f, h1, h2.same hs, h3.same hs, fun i m hm => (h4 i m hm).same hs⟩
theorem DsV.same {w w' : World} {p : Nat → Prop} (hs : ∀ b, p b → w'.heap[b]? = w.heap[b]?) {v : Value} {D : List De} (h : DsV w p v D) : DsV w' p v D := by
  obtain ⟨a, cp, f, h1, h2, h3⟩ := h
  exact ⟨a, cp, f, h1, h2.same hs, fun i e he => (h3 i e he).same hs⟩

/-- the defined types that are made have no methods yet -/
def NoM (K : Cfg) (s : Gs) (w : World) (i : Nat) : Prop := ∀ (n : Nat) e, K.D[n]? = some e → e.al = false → n < i → ∃ b ob T ub, s.nm n = some (.iface tNP (pt b)) ∧ s.g b = some (tN n) ∧ NamV w b (pt ob) (.iface T (pt ub)) (.slice none 0 0) ∧ TnV w ob (s.pk e.pkg) e.name (.iface tNP (pt b))
theorem NoM.keep {K : Cfg} {l : Nat} {s : Gs} {w w' : World} {i : Nat} (x : Sta K l w w') (hN : ∀ d cs, Has w d (.cells cs tNM) → Has w' d (.cells cs tNM)) (h : NoM K s w i) : NoM K s w' i := fun n e he ha hn => by
  obtain ⟨b, ob, T, ub, h1, h2, h3, h4⟩ := h n e he ha hn
  exact ⟨b, ob, T, ub, h1, h2, hN _ _ h3, h4.sta x⟩
theorem NoM.sle {K : Cfg} {s s' : Gs} {w : World} {i : Nat} (l : s.sle s') (h : NoM K s w i) : NoM K s' w i := fun n e he ha hn => by
  obtain ⟨b, ob, T, ub, h1, h2, h3, h4⟩ := h n e he ha hn
  exact ⟨b, ob, T, ub, l.le.nm _ _ h1, l.le.g _ _ h2, h3, by rw [l.le.pk]; exact h4⟩
theorem NoM.next {K : Cfg} {s : Gs} {w : World} {i : Nat} {e : De} (he : K.D[i]? = some e) (hi : e.al = false → ∃ b ob T ub, s.nm i = some (.iface tNP (pt b)) ∧ s.g b = some (tN i) ∧ NamV w b (pt ob) (.iface T (pt ub)) (.slice none 0 0) ∧ TnV w ob (s.pk e.pkg) e.name (.iface tNP (pt b))) (h : NoM K s w i) : NoM K s w (i + 1) := fun n e' he' ha hn => by
  by_cases hni : n = i
  · subst hni
    rw [he] at he'
    cases he'
    exact hi ha
  · exact h n e' he' ha (by omega)
theorem DclI.next {K : Cfg} {s : Gs} {w : World} {i : Nat} {e : De} (he : K.D[i]? = some e) (hi : DclV K s w i e true) (h : DclI K s w i) : DclI K s w (i + 1) := fun n e' he' => by
  by_cases hni : n = i
  · subst hni
    rw [he] at he'
    cases he'
    rw [decide_eq_true (Nat.lt_succ_self n)]
    exact hi
  · have := h n e' he'
    rwa [show decide (n < i + 1) = decide (n < i) from by by_cases hn : n < i <;> simp [hn] <;> omega]
/-- the state when types are made -/
structure LSt (K : Cfg) (P : Nat → Prop) (w0 : World) (bb i : Nat) (w : World) (s : Gs) (made : List Nat) : Prop where
  bel : RowKit.Below K.N w0 w
  bl : BL K P s w bb made
  dc : DclI K s w i
  no : NoM K s w i
section
variable {K : Cfg} {P : Nat → Prop} {w0 w w' : World} {bb i : Nat} {s : Gs} {md : List Nat}
theorem LSt.chg {l : Nat} (x : Sta K l w w') (hl : l ≤ 3) (hk : NKept w w') (hN : ∀ d cs, Has w d (.cells cs tNM) → Has w' d (.cells cs tNM)) (h : LSt K P w0 bb i w s md) : LSt K P w0 bb i w' s md :=
  ⟨Below.sta h.bel x h.bl.hN, h.bl.chg x hl hk, h.dc.chg x hl hN, h.no.keep x hN⟩
theorem LSt.ext (x : Ext w w') (h : LSt K P w0 bb i w s md) : LSt K P w0 bb i w' s md := h.chg (l := 0) (.of_ext x) (by omega) (.of_ext x) fun _ _ hh => hh.ext' x
theorem LSt.made {s' : Gs} {n : Nat} {new : List Nat} (h : LSt K P w0 bb i w s md) (m : Made K s w bb md n s' new w') : LSt K P w0 bb i w' (s'.clo w.heap.size w'.heap.size) (md ++ new) := by
  have hg : s.gle (s'.clo w.heap.size w'.heap.size) := m.gle.trans (Gs.gle_seal ..)
  have hN : ∀ d cs, Has w d (.cells cs tNM) → Has w' d (.cells cs tNM) := fun d cs hh => Has.sta0 m.sta (by decide) (by decide) hh
  exact ⟨Below.sta h.bel m.sta h.bl.hN, (h.bl.made m).clo _ (Nat.le_refl _), (h.dc.chg m.sta (by omega) hN).gle hg, (h.no.keep m.sta hN).sle hg.sle⟩
/-- an alias is named -/
theorem LSt.setNm (h : LSt K P w0 bb i w s md) {v : Value} (hk : i < K.D.length) (hn : s.nm i = none) (hv : IsI v) {cs : Array Value} (hcs : Has w K.nb (.cells cs tTY)) (u : Upd w K.nb (.cells (cs.setIfInBounds i v) tTY) w') : LSt K P w0 bb i w' (s.setNm i v) md := by
  have x : Sta K 2 w w' := sta_nb h.bl.bi.nbN hcs u
  have hN : ∀ d cs, Has w d (.cells cs tNM) → Has w' d (.cells cs tNM) := fun d cs hh => ⟨(u.oth _ (Has.tne hh hcs (by decide))).trans hh.at_⟩
  have l : s.sle (s.setNm i v) := Gs.sle_setNm hn
  exact ⟨bel_upd h.bel u h.bl.bi.nbN, h.bl.setNm hk hn hv hcs u, fun n e he => ((h.dc.chg x (by omega) hN) n e he).sle l, (h.no.keep x hN).sle l⟩
theorem LSt.next (h : LSt K P w0 bb i w s md) {e : De} (he : K.D[i]? = some e) (hi : DclV K s w i e true) (hi2 : e.al = false → ∃ b ob T ub, s.nm i = some (.iface tNP (pt b)) ∧ s.g b = some (tN i) ∧ NamV w b (pt ob) (.iface T (pt ub)) (.slice none 0 0) ∧ TnV w ob (s.pk e.pkg) e.name (.iface tNP (pt b))) : LSt K P w0 bb (i + 1) w s md :=
  ⟨h.bel, h.bl, h.dc.next he hi, h.no.next he hi2⟩
/-- a defined type has its underlying type -/
theorem LSt.und (h : LSt K P w0 bb i w s md) {e : De} (he : K.D[i]? = some e) (hal : e.al = false) {b ob T ub : Nat} {y : Ty} (h1 : s.nm i = some (.iface tNP (pt b))) (hg : s.g b = some (tN i)) (ht : TnV w ob (s.pk e.pkg) e.name (.iface tNP (pt b)))
    (hb : Has w b (.cells (nmc (pt ob) true 0 0 .nilIface .nilIface (.slice none 0 0)) tNM)) (u : Upd w b (.cells (nmc (pt ob) false 0 15 (.iface T (pt ub)) (.iface T (pt ub)) (.slice none 0 0)) tNM) w') (hr : RT K s w s.sl (.iface T (pt ub)) y) (hy : isLit y) (hu : underT K.D (tN i) = norm y) : LSt K P w0 bb (i + 1) w' s md := by
  have hNb : K.N ≤ b := (h.bl.ii b _ hg).1
  have st : Sta K 2 w w' := .of_upd hb u hNb ⟨rfl, fun i hi => by
    unfold mc at hi
    simp only [show ¬ tNM = tTY from by decide, show ¬ tNM = tIF from by decide, show ¬ tNM = tSG from by decide, if_false, if_true] at hi
    simp [nilI] at hi
    match i, hi with
    | 0, _ => rfl
    | 1, _ => rfl⟩
  have hk : NKept w w' := fun d cs t hh h1 _ => ⟨(u.oth d (Has.tne hh hb h1)).trans hh.at_⟩
  have hoth : ∀ d cs, d ≠ b → Has w d (.cells cs tNM) → Has w' d (.cells cs tNM) := fun d cs hne hh => ⟨(u.oth d hne).trans hh.at_⟩
  have hne : ∀ (n c : Nat), n ≠ i → s.g c = some (tN n) → c ≠ b := fun n c hn hc e => by
    subst e
    rw [hg] at hc
    exact hn (tN_inj (Option.some.inj hc)).symm
  refine ⟨bel_upd h.bel u hNb, h.bl.chg st (by omega) hk, fun n e' he' => ?_, fun n e' he' ha hn => ?_⟩
  · by_cases hni : n = i
    · subst hni
      rw [he] at he'
      cases he'
      rw [decide_eq_true (Nat.lt_succ_self n)]
      exact .def1 b ob _ _ y hal h1 hg (ht.sta st) u.has (hr.sta st (by omega)) hy hu
    · have := h.dc n e' he'
      rw [show decide (n < i + 1) = decide (n < i) from by by_cases hn : n < i <;> simp [hn] <;> omega]
      generalize decide (n < i) = d at this ⊢
      cases this with
      | def0 b' ob' k1 k2 k3 k4 k5 => exact .def0 b' ob' k1 k2 k3 (k4.sta st) (hoth _ _ (hne n b' hni k3) k5)
      | def1 b' ob' u' ms' y' k1 k2 k3 k4 k5 k6 k7 k8 => exact (DclV.def1 b' ob' u' ms' y' k1 k2 k3 k4 k5 k6 k7 k8).sta1 st (by omega)
      | al0 k1 => exact .al0 k1
      | al1 b' ob' v v1 y' k1 k2 k3 k4 k5 k6 k7 k8 k9 k10 k11 => exact (DclV.al1 b' ob' v v1 y' k1 k2 k3 k4 k5 k6 k7 k8 k9 k10 k11).sta1 st (by omega)
  · by_cases hni : n = i
    · subst hni
      exact ⟨b, ob, T, ub, h1, hg, u.has, by rw [he] at he'; cases he'; exact ht.sta st⟩
    · obtain ⟨b', ob', T', ub', k1, k2, k3, k4⟩ := h.no n e' he' ha (by omega)
      exact ⟨b', ob', T', ub', k1, k2, hoth _ _ (hne n b' hni k2) k3, k4.sta st⟩
theorem LSt.ctx (h : LSt K P w0 bb i w s md) (hi : i ≤ K.D.length) : Ctx K.D K i s w bb md := ⟨h.bl.bi, fun n e he hk => by
  have := h.dc n e he
  generalize hd : decide (n < i) = d at this
  cases this with
  | def0 b ob h1 h2 => exact ⟨_, h2⟩
  | def1 b ob u ms y h1 h2 => exact ⟨_, h2⟩
  | al0 h1 =>
    rcases hk with k | k
    · rw [h1] at k; cases k
    · simp at hd; omega
  | al1 b ob v v1 y h1 h2 => exact ⟨_, h2⟩, h.bl.prp, h.bl.gN, rfl, hi⟩
theorem LSt.def0 (h : LSt K P w0 bb i w s md) {e : De} (he : K.D[i]? = some e) (hal : e.al = false) : ∃ b ob, s.nm i = some (.iface tNP (pt b)) ∧ s.g b = some (tN i) ∧ TnV w ob (s.pk e.pkg) e.name (.iface tNP (pt b)) ∧ Has w b (.cells (nmc (pt ob) true 0 0 .nilIface .nilIface (.slice none 0 0)) tNM) := by
  have := h.dc i e he
  rw [decide_eq_false (Nat.lt_irrefl i)] at this
  cases this with
  | def0 b ob h1 h2 h3 h4 h5 => exact ⟨b, ob, h2, h3, h4, h5⟩
  | al0 h1 => rw [h1] at hal; cases hal
end
theorem rdy_decl {K : Cfg} (hD : ShapedD K.D) {i : Nat} {e : De} (he : K.D[i]? = some e) : Rdy K i e.ty := fun hk => by
  have hs := (hD i e he).shape
  have hl := (List.getElem?_eq_some_iff.1 he).1
  have r1 := hs.nm hk (.inl rfl)
  have r2 := hs.n0 (by rw [hk]; simp [limitN]; try omega)
  exact ⟨r2, by omega, by omega⟩
theorem len_wtD (D : List De) : D.length ≤ wtD D := by
  induction D with
  | nil => exact Nat.zero_le _
  | cons e r ih =>
    have := wtD_app [e] r
    have h2 : 1 ≤ wtD [e] := by unfold wtD wtDe; have := wt_pos e.ty; simp; omega
    simp only [List.length_cons]
    rw [List.singleton_append] at this
    omega
theorem fin_imp {P : Program} {fn : Func} {R R' : Ending → World → Prop} (h : ∀ x w, R x w → R' x w) : ∀ x D e w, fin P fn R x D e w → fin P fn R' x D e w := fun x D e w k => by
  cases x with
  | normal => exact ⟨k.1, k.2.imp fun vs q => ⟨q.1, h _ _ q.2⟩⟩
  | ret => exact ⟨k.1, k.2.imp fun vs q => ⟨q.1, h _ _ q.2⟩⟩
  | _ => exact k.elim
/-- what build answers -/
def BuildR' (K : Cfg) (w0 : World) (bb : Nat) (r : Value) (w' : World) : Prop := ∃ s base msv mfb, r = pt bb ∧ RowKit.Below K.N w0 w' ∧ K.N ≤ base ∧ Blt K s w' bb ∧ MsI K s w' base (cntM K.D K.D.length 0) msv mfb

set_option maxHeartbeats 8000000 in
theorem build3 {K : Cfg} {P : Nat → Prop} {s0 : Gs} {w0 : World} {bb : Nat} {a : Option Addr} {cp : Nat} {p : Nat → Prop} (hL0 : LSt K P w0 bb 0 w0 s0 []) (hal0 : ∀ (n : Nat) e, K.D[n]? = some e → e.al = true → s0.nm n = none)
    (hP : ∀ d, P d → d < w0.heap.size) (hd : DsV w0 p (.slice a K.D.length cp) K.D) (hp : ∀ b, p b → b < K.N) :
    ∃ c, dropA 8 (bodyA Tryz.f38) = some c ∧ W Tryz.prog 148 c (fin Tryz.prog Tryz.f38 (Ret (BuildR' K w0 bb))) [] [(0, .slice a K.D.length cp), (3, pt bb)] w0 := by
  have hDl : K.D.length ≤ 16777216 := by
    have := len_wtD K.D
    have := hL0.bl.wd
    omega
  refine ⟨_, rfl, ?_⟩
  refine zst ?_
  refine W.loop (σ := Nat) (fun k => [(49, .int .i64 k), (48, .int .i64 K.D.length), (47, .slice a K.D.length cp), (3, pt bb), (0, .slice a K.D.length cp)])
    (fun k D' wk => D' = [] ∧ k ≤ K.D.length ∧ ∃ s made, LSt K P w0 bb k wk s made ∧ (∀ (n : Nat) e, K.D[n]? = some e → e.al = true → k ≤ n → s.nm n = none) ∧ made.length ≤ wtD (K.D.take k))
    (fun k => K.D.length - k) 0 ⟨rfl, Nat.zero_le _, s0, [], hL0, fun n e h1 h2 _ => hal0 n e h1 h2, Nat.zero_le _⟩ (by exact sub_of ⟨rfl, rfl, rfl, rfl, rfl, trivial⟩) ?_
  rintro i D' wk ⟨rfl, hi, s, made, hS, hal, hlnk⟩
  refine zst ?_
  by_cases hlt : i < K.D.length
  · rw [show decide ((i : Int) < (K.D.length : Int)) = true by simpa using hlt]
    have he := List.getElem?_eq_getElem hlt
    generalize K.D[i] = e at he
    obtain ⟨b, o, a3, c3, a4, c4, f, rfl, hpb, hc, hte, hms1, hms2⟩ := hd.next he
    have hck : Cells wk b (o + i * 12) (del e a3 c3 a4 c4) := Cells.sameB (hS.bel.block b (hp b hpb)) hc
    have hpkg := hS.bl.vd.pkg i e he
    have hshe := hS.bl.vd.sh i e he
    have hlge := hS.bl.vd.lg i e he
    have hwe := wtD_take he
    have hwl := wtD_le K.D (i + 1)
    have hwd := hS.bl.wd
    have hwde : wtDe e = wt e.ty + (e.name.size + wtM e.ms) := rfl
    have hNk := hS.bl.hN
    have hrdy := rdy_decl hS.bl.vd.sh he
    refine zst ?_
    refine WU.yld rfl rfl rfl (yld_load_cells rfl hck) ?_
    refine WU.stp rfl rfl rfl stp_alloc ?_
    rintro _ w2 ⟨b7, rfl, n2⟩
    refine zst ?_
    refine WU.stp0 rfl rfl (stp_store_whole rfl rfl rfl rfl) ?_
    rintro _ w3 u3
    have x3 : Ext wk w3 := (u3.ofNew n2).ext
    have ib7 : Has w3 b7 (.cells (del e a3 c3 a4 c4).toArray 34) := u3.has
    have hS3 := hS.ext x3
    clear u3 n2
    refine zst ?_
    cases hea : e.al
    · -- a defined type
      obtain ⟨tb, ob, htb1, htb2, htb3, htb4⟩ := hS3.def0 he hea
      obtain ⟨vm, ncs, hbb3, hnb3, hnsz, hncell⟩ := hS3.bl.nr
      have hnci := hncell i _ htb1
      refine zst ?_
      obtain ⟨F, hFd⟩ : ∃ F : World → Prop, ∀ W, F W ↔ (Has W b7 (.cells (del e a3 c3 a4 c4).toArray 34) ∧ Has W K.nb (.cells ncs tTY) ∧ ∃ u, Has W bb (.cells #[s.pk 0, s.pk 1, .slice (some ⟨K.nb, 0, none⟩) K.D.length K.D.length, s.er, u] tBU)) := ⟨fun W => (Has W b7 (.cells (del e a3 c3 a4 c4).toArray 34) ∧ Has W K.nb (.cells ncs tTY) ∧ ∃ u, Has W bb (.cells #[s.pk 0, s.pk 1, .slice (some ⟨K.nb, 0, none⟩) K.D.length K.D.length, s.er, u] tBU)), fun _ => Iff.rfl⟩
      refine W.regR (R := fun a b => F a → F b) (fun _ h => h) (fun _ _ _ h k x => k (h x)) [(0, .q), (1, .q), (2, .q), (3, .q), (4, .q), (5, .q), (6, .q), (7, .q), (8, .q), (9, .q), (10, .q), (11, .l), (12, .l), (13, .l)] (by kernel_rfl) (by kernel_rfl) rfl ?_
      intro w4 x4 _
      have hF : F w4 := (hFd _).2 ⟨ib7.ext' x4, hnb3.ext' x4, vm, hbb3.ext' x4⟩
      have hS4 := hS3.ext x4
      (repeat (first
          | refine WR.nilk ?_
          | refine WR.nil ?_
          | refine WR.yld (fun _ h => h) rfl rfl rfl rfl (fun w' hx => by obtain ⟨i1, i2, u, i3⟩ := (hFd _).1 (hx hF); first | exact zyl | (exact by first | exact yld_load_cells rfl (Cells.ty_of (Cells.has i1)) | exact yld_load_c rfl (by rw [Nat.mul_one, Nat.zero_add]; exact cell_of i2 hnci)) | exact yld_indexAddr_arr rfl rfl (by omega)) ?_
          | refine WR.skip rfl rfl rfl rfl ?_))
      have hask : Ask K.D i w4 K p (tyc e.ty a3 c3) e.ty := ⟨.of_tys (hte.same fun b hb => hS4.bel.block b (hp b hb)), fun b hb => ⟨hp b hb, Nat.lt_of_lt_of_le (hp b hb) hS4.bl.hN⟩, ⟨true, hshe⟩, hlge⟩
      refine WR.stp rfl rfl rfl rfl (stp_call rfl (c_typ' K.D K i e.ty s w4 bb made p _ (hS4.ctx hi) hask (by show _ ≤ 268435456; omega))) ?_
      rintro r w5 ⟨s5, new5, m5, rt5, T5, rb5, rfl⟩
      have hF : F w5 := by
        obtain ⟨i1, i2, u, i3⟩ := (hFd _).1 hF
        exact (hFd _).2 ⟨Has.sta m5.sta i1, Has.sta0 m5.sta (by decide) (by decide) i2, Has.staB m5.sta i3⟩
      refine ⟨fun _ => hF, ?_⟩
      have hS5 := hS4.made m5
      have rt5' : RT K (s5.clo w4.heap.size w5.heap.size) w5 (s5.clo w4.heap.size w5.heap.size).sl (.iface T5 (pt rb5)) e.ty := ((rt5.mono (q := (s5.clo w4.heap.size w5.heap.size).sl) fun d hd hpd => .inr ⟨hpd, hd⟩).le (Gs.gle_seal ..).le)
      (repeat (first
          | refine WR.nilk ?_
          | refine WR.nil ?_
          | refine WR.yld (fun _ h => h) rfl rfl rfl rfl (fun w' hx => by obtain ⟨i1, i2, u, i3⟩ := (hFd _).1 (hx hF); first | exact zyl | (exact by first | exact yld_load_cells rfl (Cells.ty_of (Cells.has i1)) | exact yld_load_c rfl (by rw [Nat.mul_one, Nat.zero_add]; exact cell_of i2 hnci)) | exact yld_indexAddr_arr rfl rfl (by omega)) ?_
          | refine WR.skip rfl rfl rfl rfl ?_))
      refine WR.stp rfl rfl rfl rfl (stp_und hS5.bl.vd.sh hS5.dc hS5.bl.er rt5' hrdy rfl) ?_
      rintro r _ ⟨rfl, y, hry, hyl, hyu, T6, ub, rfl⟩
      refine ⟨fun h => h, ?_⟩
      (repeat (first
          | refine WR.nilk ?_
          | refine WR.nil ?_
          | refine WR.yld (fun _ h => h) rfl rfl rfl rfl (fun w' hx => by obtain ⟨i1, i2, u, i3⟩ := (hFd _).1 (hx hF); first | exact zyl | (exact by first | exact yld_load_cells rfl (Cells.ty_of (Cells.has i1)) | exact yld_load_c rfl (by rw [Nat.mul_one, Nat.zero_add]; exact cell_of i2 hnci)) | exact yld_indexAddr_arr rfl rfl (by omega)) ?_
          | refine WR.skip rfl rfl rfl rfl ?_))
      obtain ⟨tb', ob', ktb1, ktb2, ktb3, ktb4⟩ := hS5.def0 he hea
      obtain rfl : tb' = tb := by
        have h1 := (congrFun m5.gle.nm i).symm.trans ktb1
        rw [htb1] at h1
        cases h1
        rfl
      obtain ⟨_, hyv, _⟩ := hry.lit hyl
      have hT6 : T6 = dynT y := by cases hyv; rfl
      have hTn := (dynT_lit y).ne
      rw [← hT6] at hTn
      refine WR.stp rfl rfl rfl rfl (stp_call rfl (c_SetUnderlying tb' ub T6 (pt ob') (.slice none 0 0) true w5 ktb4 hTn.1 hTn.2.1)) ?_
      rintro _ w6 u6
      refine ⟨fun h => ?_, ?_⟩
      · obtain ⟨i1, i2, u, i3⟩ := (hFd _).1 h
        exact (hFd _).2 ⟨⟨(u6.oth _ (Has.tne i1 ktb4 (by decide))).trans i1.at_⟩, ⟨(u6.oth _ (Has.tne i2 ktb4 (by decide))).trans i2.at_⟩, u, ⟨(u6.oth _ (Has.tne i3 ktb4 (by decide))).trans i3.at_⟩⟩
      have hS6 := hS5.und he hea ktb1 ktb2 ktb3 ktb4 u6 (hry.mono fun d _ hd => hd.elim id id) hyl (by rw [under_step hS5.bl.vd.sh (tN_kind i) (by rw [tN_n, Int.toNat_natCast]; exact he)]; exact hyu)
      (repeat (first
          | refine WR.nilk ?_
          | refine WR.nil ?_
          | refine WR.yld (fun _ h => h) rfl rfl rfl rfl (fun w' hx => by obtain ⟨i1, i2, u, i3⟩ := (hFd _).1 (hx hF); first | exact zyl | (exact by first | exact yld_load_cells rfl (Cells.ty_of (Cells.has i1)) | exact yld_load_c rfl (by rw [Nat.mul_one, Nat.zero_add]; exact cell_of i2 hnci)) | exact yld_indexAddr_arr rfl rfl (by omega)) ?_
          | refine WR.skip rfl rfl rfl rfl ?_))
      have hln5 := m5.len
      refine zst ?_
      exact ⟨i + 1, by omega, ⟨rfl, by omega, _, _, hS6, fun n e' he' ha' hn' => by
        show s5.nm n = none
        rw [m5.gle.nm]
        exact hal n e' he' ha' (by omega), by rw [List.length_append]; omega⟩, sub_of ⟨rfl, rfl, rfl, rfl, rfl, trivial⟩⟩
    · -- an alias
      obtain ⟨vm, ncs, hbb3, hnb3, hnsz, hncell⟩ := hS3.bl.nr
      obtain ⟨c0, y0, hc0, _⟩ := hS3.bl.bi.pkg 0 (.inl rfl)
      obtain ⟨c1, y1, hc1, _⟩ := hS3.bl.bi.pkg 1 (.inr rfl)
      have hni := hal i e he hea (Nat.le_refl _)
      refine zst ?_
      obtain ⟨F, hFd⟩ : ∃ F : World → Prop, ∀ W, F W ↔ (Has W b7 (.cells (del e a3 c3 a4 c4).toArray 34) ∧ Has W K.nb (.cells ncs tTY) ∧ ∃ u, Has W bb (.cells #[s.pk 0, s.pk 1, .slice (some ⟨K.nb, 0, none⟩) K.D.length K.D.length, s.er, u] tBU)) := ⟨fun W => (Has W b7 (.cells (del e a3 c3 a4 c4).toArray 34) ∧ Has W K.nb (.cells ncs tTY) ∧ ∃ u, Has W bb (.cells #[s.pk 0, s.pk 1, .slice (some ⟨K.nb, 0, none⟩) K.D.length K.D.length, s.er, u] tBU)), fun _ => Iff.rfl⟩
      refine W.regR (R := fun a b => F a → F b) (fun _ h => h) (fun _ _ _ h k x => k (h x)) [(0, .q), (1, .q), (2, .q), (3, .q), (4, .q), (5, .q), (6, .q), (8, .q), (9, .q), (10, .q), (7, .l), (11, .l), (12, .l), (13, .q), (14, .q), (15, .z)] (by kernel_rfl) (by kernel_rfl) rfl ?_
      intro w4 x4 _
      have hF : F w4 := (hFd _).2 ⟨ib7.ext' x4, hnb3.ext' x4, vm, hbb3.ext' x4⟩
      have hS4 := hS3.ext x4
      have hb4 := hbb3.ext' x4
      (repeat (first
          | refine WR.nilk ?_
          | refine WR.nil ?_
          | refine WR.yld (fun _ h => h) rfl rfl rfl rfl (fun w' hx => by obtain ⟨i1, i2, u, i3⟩ := (hFd _).1 (hx hF); first | exact zyl | (exact by first | exact yld_load_cells rfl (Cells.ty_of (Cells.has i1)) | exact yld_load_cells rfl (Cells.has i1)) | exact yld_indexAddr_arr rfl rfl (by omega)) ?_
          | refine WR.skip rfl rfl rfl rfl ?_))
      refine WR.stp rfl rfl rfl rfl (stp_call rfl (c_name bb (s.pk 0) (s.pk 1) _ s.er vm e a3 c3 a4 c4 (fun k => match k with | 0 => some ⟨c0, 0, none⟩ | _ => some ⟨c1, 0, none⟩) w4 hc0 hc1 hb4 hpkg)) ?_
      rintro _ w5 ⟨ob, rfl, hobge, hob, x5⟩
      have hF : F w5 := by
        obtain ⟨i1, i2, u, i3⟩ := (hFd _).1 hF
        exact (hFd _).2 ⟨i1.ext' x5, i2.ext' x5, u, i3.ext' x5⟩
      refine ⟨fun _ => hF, ?_⟩
      have hS5 := hS4.ext x5
      have hob5 : TnV w5 ob (s.pk e.pkg) e.name .nilIface := by
        rcases hpkg with h | h
        · rw [h] at hob ⊢; rw [hc0]; exact hob
        · rw [h] at hob ⊢; rw [hc1]; exact hob
      (repeat (first
          | refine WR.nilk ?_
          | refine WR.nil ?_
          | refine WR.yld (fun _ h => h) rfl rfl rfl rfl (fun w' hx => by obtain ⟨i1, i2, u, i3⟩ := (hFd _).1 (hx hF); first | exact zyl | (exact by first | exact yld_load_cells rfl (Cells.ty_of (Cells.has i1)) | exact yld_load_cells rfl (Cells.has i1)) | exact yld_indexAddr_arr rfl rfl (by omega)) ?_
          | refine WR.skip rfl rfl rfl rfl ?_))
      have hask : Ask K.D i w5 K p (tyc e.ty a3 c3) e.ty := ⟨.of_tys (hte.same fun b hb => hS5.bel.block b (hp b hb)), fun b hb => ⟨hp b hb, Nat.lt_of_lt_of_le (hp b hb) hS5.bl.hN⟩, ⟨true, hshe⟩, hlge⟩
      refine WR.stp rfl rfl rfl rfl (stp_call rfl (c_typ' K.D K i e.ty s w5 bb made p _ (hS5.ctx hi) hask (by show _ ≤ 268435456; omega))) ?_
      rintro r w6 ⟨s6, new6, m6, rt6, T6, rb6, rfl⟩
      have hF : F w6 := by
        obtain ⟨i1, i2, u, i3⟩ := (hFd _).1 hF
        exact (hFd _).2 ⟨Has.sta m6.sta i1, Has.sta0 m6.sta (by decide) (by decide) i2, Has.staB m6.sta i3⟩
      refine ⟨fun _ => hF, ?_⟩
      have hS6 := hS5.made m6
      have rt6' : RT K (s6.clo w5.heap.size w6.heap.size) w6 (s6.clo w5.heap.size w6.heap.size).sl (.iface T6 (pt rb6)) e.ty := ((rt6.mono (q := (s6.clo w5.heap.size w6.heap.size).sl) fun d hd hpd => .inr ⟨hpd, hd⟩).le (Gs.gle_seal ..).le)
      have hob6 : TnV w6 ob (s.pk e.pkg) e.name .nilIface := Has.sta0 m6.sta (by decide) (by decide) hob5
      have hNob : K.N ≤ ob := by have := hS4.bl.hN; omega
      (repeat (first
          | refine WR.nilk ?_
          | refine WR.nil ?_
          | refine WR.yld (fun _ h => h) rfl rfl rfl rfl (fun w' hx => by obtain ⟨i1, i2, u, i3⟩ := (hFd _).1 (hx hF); first | exact zyl | (exact by first | exact yld_load_cells rfl (Cells.ty_of (Cells.has i1)) | exact yld_load_cells rfl (Cells.has i1)) | exact yld_indexAddr_arr rfl rfl (by omega)) ?_
          | refine WR.skip rfl rfl rfl rfl ?_))
      refine WR.stp rfl rfl rfl rfl (stp_call rfl (c_NewAlias hS6.bl.vd.sh hS6.dc hS6.bl.er hob6 hNob rt6' hrdy hS6.bl.bi.sll)) ?_
      rintro _ w7 ⟨ab, T7, c7, y, rfl, habge, hab, hob7, st7, hoth7, hry, hya, hyu, hyr⟩
      have hk7 : NKept w6 w7 := fun d cs t hh h1 h2 => ⟨(hoth7 d hh.lt (Has.tne hh hob6 h2)).trans hh.at_⟩
      have hN7 : ∀ d cs, Has w6 d (.cells cs tNM) → Has w7 d (.cells cs tNM) := fun d cs hh => ⟨(hoth7 d hh.lt (Has.tne hh hob6 (by decide))).trans hh.at_⟩
      have hF : F w7 := by
        obtain ⟨i1, i2, u, i3⟩ := (hFd _).1 hF
        exact (hFd _).2 ⟨hk7 _ _ _ i1 (by decide) (by decide), hk7 _ _ _ i2 (by decide) (by decide), u, hk7 _ _ _ i3 (by decide) (by decide)⟩
      refine ⟨fun _ => hF, ?_⟩
      have hS7 := hS6.chg st7 (by omega) hk7 hN7
      obtain ⟨ib1, ib2, vm7, ib3⟩ := (hFd _).1 hF
      (repeat (first
          | refine WR.nilk ?_
          | refine WR.nil ?_
          | refine WR.yld (fun _ h => h) rfl rfl rfl rfl (fun w' hx => by obtain ⟨i1, i2, u, i3⟩ := (hFd _).1 (hx hF); first | exact zyl | (exact by first | exact yld_load_cells rfl (Cells.ty_of (Cells.has i1)) | exact yld_load_cells rfl (Cells.has i1)) | exact yld_indexAddr_arr rfl rfl (by omega)) ?_
          | refine WR.skip rfl rfl rfl rfl ?_))
      refine WR.last0 rfl rfl rfl (stp_store_at (b := K.nb) (i := i) (cs := ncs) (t' := tTY) (hb := ib2) (by show some (Value.pointer (some ⟨K.nb, 0 + i * 1, none⟩)) = _; rw [Nat.mul_one, Nat.zero_add]) rfl (by omega) rfl) ?_
      rintro _ w8 u8
      have hni7 : (s6.clo w5.heap.size w6.heap.size).nm i = none := by
        show s6.nm i = none
        rw [m6.gle.nm]; exact hni
      have hS8 := hS7.setNm hlt hni7 ⟨_, _, rfl⟩ ib2 u8
      have hsp : s6.pk = s.pk := m6.gle.pk
      have st8 : Sta K 2 w7 w8 := sta_nb hS7.bl.bi.nbN ib2 u8
      have l8 := Gs.sle_setNm (v := .iface tAL (pt ab)) hni7
      have hS9 := hS8.next he (.al1 ab ob _ _ y hea (Gs.setNm_same ..) (by
        show TnV w8 ob (s6.pk e.pkg) e.name _
        rw [hsp]; exact TnV.sta st8 hob7) (Has.sta st8 hab) (((rt6'.sta st7 (by omega)).sta st8 (by omega)).sle l8) ⟨_, _, rfl⟩ ((hry.sta st8 (by omega)).sle l8) ⟨_, _, rfl⟩ hya (by
        rw [unalias_step hS7.bl.vd.sh (tN_kind i) (by rw [tN_n, Int.toNat_natCast]; exact he) hea]; exact hyu) fun hy1 => by
        obtain ⟨q1, q2, q3⟩ := hyr hy1
        exact ⟨q1, by omega⟩) fun h => by rw [hea] at h; cases h
      (repeat (first
          | refine WR.nilk ?_
          | refine WR.nil ?_
          | refine WR.yld (fun _ h => h) rfl rfl rfl rfl (fun w' hx => by obtain ⟨i1, i2, u, i3⟩ := (hFd _).1 (hx hF); first | exact zyl | (exact by first | exact yld_load_cells rfl (Cells.ty_of (Cells.has i1)) | exact yld_load_cells rfl (Cells.has i1)) | exact yld_indexAddr_arr rfl rfl (by omega)) ?_
          | refine WR.skip rfl rfl rfl rfl ?_))
      have hln6 := m6.len
      refine zst ?_
      exact ⟨i + 1, by omega, ⟨rfl, by omega, _, _, hS9, fun n e' he' ha' hn' => by
        show (if n = i then _ else s6.nm n) = none
        rw [if_neg (by omega), m6.gle.nm]
        exact hal n e' he' ha' (by omega), by rw [List.length_append]; omega⟩, sub_of ⟨rfl, rfl, rfl, rfl, rfl, trivial⟩⟩
  · rw [show decide ((i : Int) < (K.D.length : Int)) = false by simpa using hlt]
    obtain rfl : i = K.D.length := by omega
    rw [List.take_of_length_le (Nat.le_refl _)] at hlnk
    have hms : MsI K s wk wk.heap.size (cntM K.D 0 0) (fun _ => .slice none 0 0) (fun _ => []) := ⟨fun n e he ha => by
      obtain ⟨b, ob, T, ub, h1, h2, h3, h4⟩ := hS.no n e he ha (List.getElem?_eq_some_iff.1 he).1
      exact ⟨b, ob, T, ub, h1, h2, h3, h4, Own.nil .., by unfold cntM; simp; try omega, by unfold cntM; simp; try omega, fun q m f _ hf => by simp at hf⟩, fun n n' g _ h => (by cases h), fun n d _ h => (by cases h), fun n g h => (by cases h)⟩
    have hz := hS.bel.size
    have hb4 := build4 (a := a) (cp := cp) (p := p) hS.bl hS.dc hms (fun d hd => Nat.lt_of_lt_of_le (hP d hd) hz) hlnk (hd.same fun b hb => hS.bel.block b (hp b hb)) hp
    obtain ⟨c, hc1, hc2⟩ := hb4
    (repeat ((fail_if_success guard_target =~ gW (.seq (.region 15 _ _) _)); (fail_if_success guard_target =~ gW (.seq (.seq (.region 15 _ _) _) _)); refine zs1 ?_))
    exact W.useA (e' := [(0, .slice a K.D.length cp), (3, pt bb)]) ⟨c, hc1, hc2.mono (fin_imp fun v w' ⟨v1, k0, s', msv, mfb, k1, k2, k3, k4, _⟩ => ⟨v1, k0, s', _, msv, mfb, k1, hS.bel.trans k2, hS.bl.hN, k3, k4⟩)⟩ rfl ⟨rfl, rfl, trivial⟩
end Go.Proofs.YtlemfkbhcleopaaGreatDoor
namespace Go.Proofs.YtlemfkbhcleopaaGreatDoor
open Go Go.Kd
set_option maxRecDepth 100000

/-- the state when types are named -/
structure NSt (K : Cfg) (P : Nat → Prop) (w0 : World) (bb k : Nat) (w : World) (s : Gs) : Prop where
  bel : RowKit.Below K.N w0 w
  bl : BL K P s w bb []
  df : ∀ (n : Nat) e, K.D[n]? = some e → e.al = false → n < k → ∃ b ob, s.nm n = some (.iface tNP (pt b)) ∧ s.g b = some (tN n) ∧ TnV w ob (s.pk e.pkg) e.name (.iface tNP (pt b)) ∧ Has w b (.cells (nmc (pt ob) true 0 0 .nilIface .nilIface (.slice none 0 0)) tNM)
  no : ∀ (n : Nat) e, K.D[n]? = some e → (e.al = true ∨ k ≤ n) → s.nm n = none
section
variable {K : Cfg} {P : Nat → Prop} {w0 w w' : World} {bb k : Nat} {s : Gs}
theorem NSt.ext (x : Ext w w') (h : NSt K P w0 bb k w s) : NSt K P w0 bb k w' s := ⟨bel_ext h.bel x h.bl.hN, h.bl.ext x, fun n e he ha hn => by
  obtain ⟨b, ob, h1, h2, h3, h4⟩ := h.df n e he ha hn
  exact ⟨b, ob, h1, h2, Has.ext' x h3, h4.ext' x⟩, h.no⟩
/-- type k is named -/
theorem NSt.add (h : NSt K P w0 bb k w s) {e : De} (he : K.D[k]? = some e) (hal : e.al = false) {b ob : Nat} (hg : s.g b = none) (hb : Has w b (.cells (nmc (pt ob) true 0 0 .nilIface .nilIface (.slice none 0 0)) tNM)) (hNb : K.N ≤ b) (ht : TnV w ob (s.pk e.pkg) e.name (.iface tNP (pt b)))
    {cs : Array Value} (hcs : Has w K.nb (.cells cs tTY)) (u : Upd w K.nb (.cells (cs.setIfInBounds k (.iface tNP (pt b))) tTY) w') : NSt K P w0 bb (k + 1) w' ((s.set b (tN k)).setNm k (.iface tNP (pt b))) := by
  have hk := (List.getElem?_eq_some_iff.1 he).1
  have hn := h.no k e he (.inr (Nat.le_refl _))
  have h1 := h.bl.setG (t := tN k) hg hb.lt hNb (by rintro (h | ⟨h, _⟩) <;> cases h)
  have hn1 : (s.set b (tN k)).nm k = none := hn
  have l1 : s.sle (s.set b (tN k)) := (Gs.gle_set hg).sle
  have l := l1.trans (Gs.sle_setNm (v := .iface tNP (pt b)) hn1)
  have hN : ∀ {d t : Nat} {cs' : Array Value}, t ≠ tTY → Has w d (.cells cs' t) → Has w' d (.cells cs' t) := fun ht hh => ⟨(u.oth _ (Has.tne hh hcs ht)).trans hh.at_⟩
  refine ⟨bel_upd h.bel u h.bl.bi.nbN, h1.setNm hk hn1 ⟨_, _, rfl⟩ hcs u, fun n e' he' ha hn' => ?_, fun n e' he' ha => ?_⟩
  · by_cases hnk : n = k
    · subst hnk
      rw [he] at he'
      cases he'
      exact ⟨b, ob, Gs.setNm_same .., Gs.set_same .., hN (by decide) ht, hN (by decide) hb⟩
    · obtain ⟨b', ob', k1, k2, k3, k4⟩ := h.df n e' he' ha (by omega)
      exact ⟨b', ob', l.le.nm _ _ k1, l.le.g _ _ k2, hN (by decide) k3, hN (by decide) k4⟩
  · have hne : n ≠ k := fun e0 => by
      subst e0
      rw [he] at he'
      cases he'
      rcases ha with h | h
      · rw [hal] at h; cases h
      · omega
    show (if n = k then _ else s.nm n) = none
    rw [if_neg hne]
    exact h.no n e' he' (ha.imp id fun h => by omega)
/-- an alias is passed by -/
theorem NSt.skip (h : NSt K P w0 bb k w s) {e : De} (he : K.D[k]? = some e) (hal : e.al = true) : NSt K P w0 bb (k + 1) w s := ⟨h.bel, h.bl, fun n e' he' ha hn' => by
  by_cases hnk : n = k
  · subst hnk
    rw [he] at he'
    cases he'
    rw [hal] at ha; cases ha
  · exact h.df n e' he' ha (by omega), fun n e' he' ha => h.no n e' he' (ha.imp id fun h => by omega)⟩
theorem NSt.lst (h : NSt K P w0 bb K.D.length w s) : LSt K P w0 bb 0 w s [] := ⟨h.bel, h.bl, fun n e he => by
  rw [decide_eq_false (Nat.not_lt_zero n)]
  cases ha : e.al
  · obtain ⟨b, ob, h1, h2, h3, h4⟩ := h.df n e he ha (List.getElem?_eq_some_iff.1 he).1
    exact .def0 b ob ha h1 h2 h3 h4
  · exact .al0 ha, fun n e _ _ hn => absurd hn (Nat.not_lt_zero n)⟩
end

set_option maxHeartbeats 4000000 in
theorem build2 {K : Cfg} {P : Nat → Prop} {s0 : Gs} {w0 : World} {bb : Nat} {a : Option Addr} {cp : Nat} {p : Nat → Prop} (hL0 : NSt K P w0 bb 0 w0 s0) (hP : ∀ d, P d → d < w0.heap.size) (hd : DsV w0 p (.slice a K.D.length cp) K.D) (hp : ∀ b, p b → b < K.N) :
    ∃ c, dropA 2 (bodyA Tryz.f38) = some c ∧ W Tryz.prog 148 c (fin Tryz.prog Tryz.f38 (Ret (BuildR' K w0 bb))) [] [(0, .slice a K.D.length cp), (3, pt bb)] w0 := by
  have hDl : K.D.length ≤ 16777216 := by
    have := len_wtD K.D
    have := hL0.bl.wd
    omega
  refine ⟨_, rfl, ?_⟩
  refine zst ?_
  refine W.loop (σ := Nat) (fun k => [(27, .int .i64 k), (26, .int .i64 K.D.length), (25, .slice a K.D.length cp), (3, pt bb), (0, .slice a K.D.length cp)])
    (fun k D' wk => D' = [] ∧ k ≤ K.D.length ∧ ∃ s, NSt K P w0 bb k wk s)
    (fun k => K.D.length - k) 0 ⟨rfl, Nat.zero_le _, s0, hL0⟩ (by exact sub_of ⟨rfl, rfl, rfl, rfl, rfl, trivial⟩) ?_
  rintro i D' wk ⟨rfl, hi, s, hS⟩
  refine zst ?_
  by_cases hlt : i < K.D.length
  · rw [show decide ((i : Int) < (K.D.length : Int)) = true by simpa using hlt]
    have he := List.getElem?_eq_getElem hlt
    generalize K.D[i] = e at he
    obtain ⟨b, o, a3, c3, a4, c4, f, rfl, hpb, hc, hte, hms1, hms2⟩ := hd.next he
    have hck : Cells wk b (o + i * 12) (del e a3 c3 a4 c4) := Cells.sameB (hS.bel.block b (hp b hpb)) hc
    have hpkg := hS.bl.vd.pkg i e he
    have hNk := hS.bl.hN
    refine zst ?_
    refine WU.yld rfl rfl rfl (yld_load_cells rfl hck) ?_
    refine WU.stp rfl rfl rfl stp_alloc ?_
    rintro _ w2 ⟨b5, rfl, n2⟩
    refine zst ?_
    refine WU.stp0 rfl rfl (stp_store_whole rfl rfl rfl rfl) ?_
    rintro _ w3 u3
    have x3 : Ext wk w3 := (u3.ofNew n2).ext
    have ib5 : Has w3 b5 (.cells (del e a3 c3 a4 c4).toArray 34) := u3.has
    have hS3 := hS.ext x3
    clear u3 n2
    refine zst ?_
    cases hea : e.al
    · obtain ⟨vm, ncs, hbb3, hnb3, hnsz, hncell⟩ := hS3.bl.nr
      obtain ⟨c0, y0, hc0, _⟩ := hS3.bl.bi.pkg 0 (.inl rfl)
      obtain ⟨c1, y1, hc1, _⟩ := hS3.bl.bi.pkg 1 (.inr rfl)
      refine zst ?_
      obtain ⟨F, hFd⟩ : ∃ F : World → Prop, ∀ W, F W ↔ (Has W b5 (.cells (del e a3 c3 a4 c4).toArray 34) ∧ ∃ u, Has W bb (.cells #[s.pk 0, s.pk 1, .slice (some ⟨K.nb, 0, none⟩) K.D.length K.D.length, s.er, u] tBU)) := ⟨fun W => (Has W b5 (.cells (del e a3 c3 a4 c4).toArray 34) ∧ ∃ u, Has W bb (.cells #[s.pk 0, s.pk 1, .slice (some ⟨K.nb, 0, none⟩) K.D.length K.D.length, s.er, u] tBU)), fun _ => Iff.rfl⟩
      refine W.regR (R := fun a b => F a → F b) (fun _ h => h) (fun _ _ _ h k x => k (h x)) [(0, .q), (1, .q), (2, .q), (3, .q), (4, .q), (5, .q), (6, .q), (7, .l), (8, .l), (9, .q), (10, .q), (11, .z)] (by kernel_rfl) (by kernel_rfl) rfl ?_
      intro w4 x4 _
      have hF : F w4 := (hFd _).2 ⟨ib5.ext' x4, vm, hbb3.ext' x4⟩
      have hS4 := hS3.ext x4
      have hb4 := hbb3.ext' x4
      have hnb4 := hnb3.ext' x4
      have ib4 := ib5.ext' x4
      (repeat (first
          | refine WR.nilk ?_
          | refine WR.nil ?_
          | refine WR.yld (fun _ h => h) rfl rfl rfl rfl (fun w' hx => by obtain ⟨i1, u, i3⟩ := (hFd _).1 (hx hF); first | exact zyl | (exact by exact yld_load_cells rfl (Cells.has i1)) | exact yld_indexAddr_arr rfl rfl (by omega)) ?_
          | refine WR.skip rfl rfl rfl rfl ?_))
      refine WR.stp rfl rfl rfl rfl (stp_call rfl (c_name bb (s.pk 0) (s.pk 1) _ s.er vm e a3 c3 a4 c4 (fun k => match k with | 0 => some ⟨c0, 0, none⟩ | _ => some ⟨c1, 0, none⟩) w4 hc0 hc1 hb4 hpkg)) ?_
      rintro _ w5 ⟨ob, rfl, hobge, hob, x5⟩
      have hF : F w5 := by
        obtain ⟨i1, u, i3⟩ := (hFd _).1 hF
        exact (hFd _).2 ⟨i1.ext' x5, u, i3.ext' x5⟩
      refine ⟨fun _ => hF, ?_⟩
      have hob5 : TnV w5 ob (s.pk e.pkg) e.name .nilIface := by
        rcases hpkg with h | h
        · rw [h] at hob ⊢; rw [hc0]; exact hob
        · rw [h] at hob ⊢; rw [hc1]; exact hob
      (repeat (first
          | refine WR.nilk ?_
          | refine WR.nil ?_
          | refine WR.yld (fun _ h => h) rfl rfl rfl rfl (fun w' hx => by obtain ⟨i1, u, i3⟩ := (hFd _).1 (hx hF); first | exact zyl | (exact by exact yld_load_cells rfl (Cells.has i1)) | exact yld_indexAddr_arr rfl rfl (by omega)) ?_
          | refine WR.skip rfl rfl rfl rfl ?_))
      refine WR.stp rfl rfl rfl rfl (stp_call rfl (c_NewNamed ob (s.pk e.pkg) e.name w5 hob5)) ?_
      rintro _ w6 ⟨nb, rfl, hnbge, hnb, hob6, x6⟩
      have x46 : Ext w4 w6 := ⟨x5.below.trans (x6.mono hobge)⟩
      have hF : F w6 := (hFd _).2 ⟨ib4.ext' x46, vm, hb4.ext' x46⟩
      refine ⟨fun _ => hF, ?_⟩
      have hS6 := hS4.ext x46
      have hnb6 := hnb4.ext' x46
      have hge4 : w4.heap.size ≤ nb := by have := x5.size; omega
      have hg6 := hS4.bl.bi.fresh hge4
      (repeat (first
          | refine WR.nilk ?_
          | refine WR.nil ?_
          | refine WR.yld (fun _ h => h) rfl rfl rfl rfl (fun w' hx => by obtain ⟨i1, u, i3⟩ := (hFd _).1 (hx hF); first | exact zyl | (exact by exact yld_load_cells rfl (Cells.has i1)) | exact yld_indexAddr_arr rfl rfl (by omega)) ?_
          | refine WR.skip rfl rfl rfl rfl ?_))
      refine WR.last0 rfl rfl rfl (stp_store_at (b := K.nb) (i := i) (cs := ncs) (t' := tTY) (hb := hnb6) (by show some (Value.pointer (some ⟨K.nb, 0 + i * 1, none⟩)) = _; rw [Nat.mul_one, Nat.zero_add]) rfl (by omega) rfl) ?_
      rintro _ w8 u8
      have hS8 := hS6.add he hea hg6 hnb (by have := hS4.bl.hN; omega) hob6 hnb6 u8
      (repeat (first
          | refine WR.nilk ?_
          | refine WR.nil ?_
          | refine WR.yld (fun _ h => h) rfl rfl rfl rfl (fun w' hx => by obtain ⟨i1, u, i3⟩ := (hFd _).1 (hx hF); first | exact zyl | (exact by exact yld_load_cells rfl (Cells.has i1)) | exact yld_indexAddr_arr rfl rfl (by omega)) ?_
          | refine WR.skip rfl rfl rfl rfl ?_))
      refine zst ?_
      exact ⟨i + 1, by omega, ⟨rfl, by omega, _, hS8⟩, sub_of ⟨rfl, rfl, rfl, rfl, rfl, trivial⟩⟩
    · refine zst ?_
      exact ⟨i + 1, by omega, ⟨rfl, by omega, _, hS3.skip he hea⟩, sub_of ⟨rfl, rfl, rfl, rfl, rfl, trivial⟩⟩
  · rw [show decide ((i : Int) < (K.D.length : Int)) = false by simpa using hlt]
    obtain rfl : i = K.D.length := by omega
    have hz := hS.bel.size
    have hL : LSt K P wk bb 0 wk s [] := ⟨RowKit.Below.refl _ _, hS.lst.bl, hS.lst.dc, hS.lst.no⟩
    obtain ⟨c, hc1, hc2⟩ := build3 (a := a) (cp := cp) (p := p) hL (fun n e h1 h2 => hS.no n e h1 (.inl h2)) (fun d hd => Nat.lt_of_lt_of_le (hP d hd) hz) (hd.same fun b hb => hS.bel.block b (hp b hb)) hp
    (repeat ((fail_if_success guard_target =~ gW (.seq (.region 8 _ _) _)); (fail_if_success guard_target =~ gW (.seq (.seq (.region 8 _ _) _) _)); refine zs1 ?_))
    exact W.useA (e' := [(0, .slice a K.D.length cp), (3, pt bb)]) ⟨c, hc1, hc2.mono (fin_imp fun v w' ⟨v1, k0, s', base, msv, mfb, k1, k2, k3, k4, k5⟩ => ⟨v1, k0, s', base, msv, mfb, k1, hS.bel.trans k2, k3, k4, k5⟩)⟩ rfl ⟨rfl, rfl, trivial⟩
end Go.Proofs.YtlemfkbhcleopaaGreatDoor
namespace Go.Proofs.YtlemfkbhcleopaaGreatDoor
open Go Go.Kd
set_option maxRecDepth 100000

theorem ErrI.cfg {K K' : Cfg} {s : Gs} {w : World} (hq : ∀ b, s.sl b → b ≠ K'.nb) (h : ErrI K s w) : ErrI K' s w := by
  obtain ⟨b, ob, u, ms, nm, h1, h2, h3, h4, h5⟩ := h
  exact ⟨b, ob, u, ms, nm, h1, h2, h3, h4, h5.cfg hq⟩
/-- what NewError leaves -/
structure Er0 (K : Cfg) (pk : Int → Value) (lo hi : Nat) (w : World) (b : Nat) (s : Gs) : Prop where
  nm : s.nm = fun _ => none
  er : s.er = .iface tNP (pt b)
  pk : s.pk = pk
  sl : ∀ d, s.sl d → lo ≤ d ∧ d < hi
  ei : ErrI K s w
  g : ∀ c u, s.g c = some u → lo ≤ c ∧ c < hi ∧ (isIf u → WfI K.D u ∧ RT K s w s.sl (.iface tPI (pt c)) u ∧ TSv K s w all' c u)
theorem Er0.to {K K' : Cfg} {pk : Int → Value} {lo hi : Nat} {w w' : World} {b : Nat} {s : Gs} (h : Er0 K pk lo hi w b s) (x : Ext w w') (hD : K'.D = K.D) (hn : K'.nb < lo ∨ hi ≤ K'.nb) : Er0 K' pk lo hi w' b s := by
  have hq : ∀ b, s.sl b → b ≠ K'.nb := fun b hb => by have := h.sl b hb; omega
  exact ⟨h.nm, h.er, h.pk, h.sl, (h.ei.cfg hq).sta (l := 0) (.of_ext x) (by omega), fun c u hc => by
    obtain ⟨k1, k2, k3⟩ := h.g c u hc
    exact ⟨k1, k2, fun hu => by
      obtain ⟨q1, q2, q3⟩ := k3 hu
      exact ⟨by rw [hD]; exact q1, (q2.cfg hq).ext x, (q3.cfg hq hD).sta (l := 0) (.of_ext x) (by omega)⟩⟩⟩
/-- the state when the builder is there -/
def St1 (D : List De) (w0 : World) (v : Value) (e' : Env) (w' : World) : Prop := ∃ bb nb c0 c1 b lo hi x0 x1 s, subs e' [(0, v), (3, pt bb)] ∧ Ext w0 w' ∧ w0.heap.size ≤ bb ∧ w0.heap.size ≤ nb ∧ w0.heap.size ≤ lo ∧ hi ≤ w'.heap.size ∧
  Has w' bb (.cells #[pt c0, pt c1, .slice (some ⟨nb, 0, none⟩) D.length D.length, .iface tNP (pt b), .slice none 0 0] tBU) ∧ Has w' nb (.cells (List.replicate D.length .nilIface).toArray tTY) ∧
  Has w' c0 (.cells #[.string ⟨#[112]⟩, .string x0] tPK) ∧ Has w' c1 (.cells #[.string ⟨#[113]⟩, .string x1] tPK) ∧ Er0 ⟨w0.heap.size, nb, D⟩ (fun n => if n = 0 then pt c0 else pt c1) lo hi w' b s
theorem St1.nst {D : List De} {w0 w' : World} {v : Value} {e' : Env} (h : St1 D w0 v e' w') (hp : Prp w0) (hV : ValidD D) (hwd : wtD D ≤ 16777216) : ∃ nb bb s, subs e' [(0, v), (3, pt bb)] ∧ Ext w0 w' ∧ NSt ⟨w0.heap.size, nb, D⟩ (fun d => d < w'.heap.size) w' bb 0 w' s := by
  obtain ⟨bb, nb, c0, c1, b, lo, hi, x0, x1, s, hs, x, hb, hn, hlo, hhi, hbb, hnb, hc0, hc1, he⟩ := h
  have p0 : s.pk 0 = pt c0 := by rw [he.pk]; rfl
  have p1 : s.pk 1 = pt c1 := by rw [he.pk]; rfl
  have hbb' : Has w' bb (.cells #[s.pk 0, s.pk 1, .slice (some ⟨nb, 0, none⟩) D.length D.length, s.er, .slice none 0 0] tBU) := by rw [p0, p1, he.er]; exact hbb
  have hnn : ∀ i u, s.nm i = some u → False := fun i u hu => by rw [he.nm] at hu; cases hu
  refine ⟨nb, bb, s, hs, x, RowKit.Below.refl _ _, ⟨⟨hb, hn, hnb.lt, fun n hn => ?_, ⟨_, _, he.er⟩, fun i u hu => (hnn i u hu).elim, fun c u hc => ?_, fun d hd => ?_, fun b hb => (by cases hb), _, _, _, _, hbb', Own.nil .., fun i u hu => (hnn i u hu).elim⟩, ⟨_, _, hbb', hnb, by simp, fun i u hu => (hnn i u hu).elim⟩, he.ei, fun c u hc => ?_, hp.ext x, hp.lt, hV, hwd⟩, fun n e _ _ hn => absurd hn (Nat.not_lt_zero n), fun n e _ _ => by rw [he.nm]⟩
  · rcases hn with rfl | rfl
    · exact ⟨c0, x0, p0, hc0⟩
    · exact ⟨c1, x1, p1, hc1⟩
  · have := (he.g c u hc).2.1
    omega
  · have := (he.sl d hd).2
    omega
  · obtain ⟨k1, k2, k3⟩ := he.g c u hc
    refine ⟨by show w0.heap.size ≤ c; omega, fun hu => ?_⟩
    obtain ⟨q1, q2, q3⟩ := k3 hu
    exact ⟨q1, q2, .inl (q3.tr (Tr.staM (K := ⟨w0.heap.size, nb, D⟩) (l := 0) (.rfl' ..) (by omega) fun d hd _ => hd) (.sta (K := ⟨w0.heap.size, nb, D⟩) (l := 0) (.rfl' ..) (by omega) _))⟩

set_option maxHeartbeats 4000000 in
theorem c_build {D : List De} {w0 : World} {a : Option Addr} {cp : Nat} {p : Nat → Prop} (hp : Prp w0) (hV : ValidD D) (hwd : wtD D ≤ 16777216) (hd : DsV w0 p (.slice a D.length cp) D) (hpb : ∀ b, p b → b < w0.heap.size) :
    Calls Tryz.prog 38 #[.slice a D.length cp] w0 (Ret fun r w' => ∃ nb bb w1, Ext w0 w1 ∧ BuildR' ⟨w0.heap.size, nb, D⟩ w1 bb r w') := by
  have hDl : D.length ≤ 16777216 := by have := len_wtD D; omega
  have herr : ∀ (c0 c1 : Nat) (w : World), Ext w0 w → Has w c0 (.cells #[.string ⟨#[112]⟩, .string ⟨#[112]⟩] tPK) → Has w c1 (.cells #[.string ⟨#[113]⟩, .string ⟨#[113]⟩] tPK) → Calls Tryz.prog 68 #[] w (Ret fun r w' => Ext w w' ∧ ∃ b s, r = pt b ∧ Er0 ⟨w.heap.size, 0, D⟩ (fun n => if n = 0 then pt c0 else pt c1) w.heap.size w'.heap.size w' b s) := fun c0 c1 w x h0 h1 => by
    refine (c_NewError D (fun n => if n = 0 then pt c0 else pt c1) w (hp.ext x) (hp.ext x).lt hV.sh hwd fun n hn => ?_).mono fun x w' ⟨v, k0, k1, b, s, k2, k3, k4, k5, k6, k7, k8⟩ => ⟨v, k0, k1, b, s, k2, k3, k4, k5, k6, k7, k8⟩
    rcases hn with rfl | rfl
    · exact ⟨c0, _, rfl, h0⟩
    · exact ⟨c1, _, rfl, h1⟩
  refine W.enter (args := [.slice a D.length cp]) Tryz.func38 rfl Tryz.ntmps38 rfl rfl ?_
  (repeat ((fail_if_success guard_target =~ gW (.seq (.region 1 _ _) _)); (fail_if_success guard_target =~ gW (.seq (.seq (.region 1 _ _) _) _)); refine zs1 ?_))
  refine W.cutW (St1 D w0 (.slice a D.length cp)) ?_ ?_
  · refine W.regT ?_
    rintro w1 x1
    refine WT.q 3 (by kernel_rfl) (by kernel_rfl) (by kernel_rfl) rfl rfl rfl rfl zyl ?_
    refine WT.q 4 (by kernel_rfl) (by kernel_rfl) (by kernel_rfl) rfl rfl rfl rfl zyl ?_
    refine WT.two (i := 0) (j := 5) (by kernel_rfl) rfl rfl rfl rfl (stp_call rfl (c_NewPackage ⟨#[112]⟩ ⟨#[112]⟩ w1)) rfl rfl rfl rfl (stp_makeSlice (n := D.length) rfl rfl (by omega)) ?_ ?_
    · rintro _ w2 ⟨c0, rfl, n2⟩
      refine ⟨n2.ext, ?_⟩
      have h0 := n2.has
      refine WT.two (i := 1) (j := 5) (by kernel_rfl) rfl rfl rfl rfl (stp_call rfl (c_NewPackage ⟨#[113]⟩ ⟨#[113]⟩ w2)) rfl rfl rfl rfl (stp_makeSlice (n := D.length) rfl rfl (by omega)) ?_ ?_
      · rintro _ w3 ⟨c1, rfl, n3⟩
        refine ⟨n3.ext, ?_⟩
        have h1 := n3.has
        have h03 := h0.ext' n3.ext
        have x03 := (x1.trans n2.ext).trans n3.ext
        refine WT.q 2 (by kernel_rfl) (by kernel_rfl) (by kernel_rfl) rfl rfl rfl rfl (yld_buildArr rfl rfl) ?_
        refine WT.two (i := 5) (j := 6) (by kernel_rfl) rfl rfl rfl rfl (stp_makeSlice (n := D.length) rfl rfl (by omega)) rfl rfl rfl rfl (stp_call rfl (herr c0 c1 w3 x03 h03 h1)) ?_ ?_
        · rintro _ w4 ⟨nb, rfl, n4⟩
          refine ⟨n4.ext, ?_⟩
          refine WT.lin [(6, .l), (7, .q), (8, .q), (9, .l), (10, .q)] (by kernel_rfl) (by kernel_rfl) rfl ?_
          refine zsd ?_
          refine WD.stp rfl rfl rfl rfl (stp_call rfl (herr c0 c1 w4 (x03.trans n4.ext) (h03.ext' n4.ext) (h1.ext' n4.ext))) ?_
          rintro _ w5 ⟨x5, b, s, rfl, he⟩
          refine ⟨x5, ?_⟩
          refine zsd ?_
          refine WD.stp rfl rfl rfl rfl (by first | exact stp_box rfl rfl | exact stp_box1 rfl rfl) ?_
          rintro _ w6 ⟨bb, rfl, n6⟩
          refine ⟨n6.ext, ?_⟩
          refine zsd ?_
          have e4 := n4.num
          have e6 := n6.num
          have z2 := x03.size
          have z4 := n4.size
          have z5 := x5.size
          have z6 := n6.size
          exact ⟨rfl, rfl, bb, nb, c0, c1, b, w4.heap.size, w5.heap.size, _, _, s, ⟨rfl, rfl, trivial⟩, ((x03.trans n4.ext).trans x5).trans n6.ext, by omega, by omega, by omega, by omega, n6.has, (n4.has.ext' x5).ext' n6.ext, ((h03.ext' n4.ext).ext' x5).ext' n6.ext, ((h1.ext' n4.ext).ext' x5).ext' n6.ext, he.to n6.ext rfl (.inl (by show nb < _; omega))⟩
        · rintro _ w4 ⟨x4, b, s, rfl, he⟩
          refine ⟨x4, ?_⟩
          refine WT.lin [(7, .q), (5, .l), (8, .q), (9, .l), (10, .q)] (by kernel_rfl) (by kernel_rfl) rfl ?_
          refine zsd ?_
          refine WD.stp rfl rfl rfl rfl (stp_makeSlice (n := D.length) rfl rfl (by omega)) ?_
          rintro _ w5 ⟨nb, rfl, n5⟩
          refine ⟨n5.ext, ?_⟩
          refine zsd ?_
          refine WD.stp rfl rfl rfl rfl (by first | exact stp_box rfl rfl | exact stp_box1 rfl rfl) ?_
          rintro _ w6 ⟨bb, rfl, n6⟩
          refine ⟨n6.ext, ?_⟩
          refine zsd ?_
          have e5 := n5.num
          have e6 := n6.num
          have z2 := x03.size
          have z4 := x4.size
          have z5 := n5.size
          have z6 := n6.size
          exact ⟨rfl, rfl, bb, nb, c0, c1, b, w3.heap.size, w4.heap.size, _, _, s, ⟨rfl, rfl, trivial⟩, ((x03.trans x4).trans n5.ext).trans n6.ext, by omega, by omega, by omega, by omega, n6.has, n5.has.ext' n6.ext, ((h03.ext' x4).ext' n5.ext).ext' n6.ext, ((h1.ext' x4).ext' n5.ext).ext' n6.ext, (he.to n5.ext rfl (K' := ⟨w0.heap.size, nb, D⟩) (.inr (by show _ ≤ nb; omega))).to n6.ext rfl (.inr (by show _ ≤ nb; omega))⟩
      · rintro _ w3 ⟨nb, rfl, n3⟩
        refine ⟨n3.ext, ?_⟩
        refine WT.lin [(1, .l), (2, .q), (6, .l), (7, .q), (8, .q), (9, .l), (10, .q)] (by kernel_rfl) (by kernel_rfl) rfl ?_
        refine zsd ?_
        refine WD.stp rfl rfl rfl rfl (stp_call rfl (c_NewPackage ⟨#[113]⟩ ⟨#[113]⟩ w3)) ?_
        rintro _ w4 ⟨c1, rfl, n4⟩
        refine ⟨n4.ext, ?_⟩
        have h1 := n4.has
        have h04 := (h0.ext' n3.ext).ext' n4.ext
        have x04 := ((x1.trans n2.ext).trans n3.ext).trans n4.ext
        refine zsd ?_
        refine WD.yld rfl rfl rfl rfl (yld_buildArr rfl rfl) ?_
        refine zsd ?_
        refine WD.stp rfl rfl rfl rfl (stp_call rfl (herr c0 c1 w4 x04 h04 h1)) ?_
        rintro _ w5 ⟨x5, b, s, rfl, he⟩
        refine ⟨x5, ?_⟩
        refine zsd ?_
        refine WD.stp rfl rfl rfl rfl (by first | exact stp_box rfl rfl | exact stp_box1 rfl rfl) ?_
        rintro _ w6 ⟨bb, rfl, n6⟩
        refine ⟨n6.ext, ?_⟩
        refine zsd ?_
        have e3 := n3.num
        have e6 := n6.num
        have z1 := x1.size
        have z2 := n2.size
        have z3 := n3.size
        have z4 := n4.size
        have z5 := x5.size
        have z6 := n6.size
        exact ⟨rfl, rfl, bb, nb, c0, c1, b, w4.heap.size, w5.heap.size, _, _, s, ⟨rfl, rfl, trivial⟩, (x04.trans x5).trans n6.ext, by omega, by omega, by omega, by omega, n6.has, ((n3.has.ext' n4.ext).ext' x5).ext' n6.ext, (h04.ext' x5).ext' n6.ext, (h1.ext' x5).ext' n6.ext, he.to n6.ext rfl (.inl (by show nb < _; omega))⟩
    · rintro _ w2 ⟨nb, rfl, n2⟩
      refine ⟨n2.ext, ?_⟩
      refine WT.lin [(0, .l), (1, .l), (2, .q), (6, .l), (7, .q), (8, .q), (9, .l), (10, .q)] (by kernel_rfl) (by kernel_rfl) rfl ?_
      refine zsd ?_
      refine WD.stp rfl rfl rfl rfl (stp_call rfl (c_NewPackage ⟨#[112]⟩ ⟨#[112]⟩ w2)) ?_
      rintro _ w3 ⟨c0, rfl, n3⟩
      refine ⟨n3.ext, ?_⟩
      have h0 := n3.has
      refine zsd ?_
      refine WD.stp rfl rfl rfl rfl (stp_call rfl (c_NewPackage ⟨#[113]⟩ ⟨#[113]⟩ w3)) ?_
      rintro _ w4 ⟨c1, rfl, n4⟩
      refine ⟨n4.ext, ?_⟩
      have h1 := n4.has
      have h04 := h0.ext' n4.ext
      have x04 := ((x1.trans n2.ext).trans n3.ext).trans n4.ext
      refine zsd ?_
      refine WD.yld rfl rfl rfl rfl (yld_buildArr rfl rfl) ?_
      refine zsd ?_
      refine WD.stp rfl rfl rfl rfl (stp_call rfl (herr c0 c1 w4 x04 h04 h1)) ?_
      rintro _ w5 ⟨x5, b, s, rfl, he⟩
      refine ⟨x5, ?_⟩
      refine zsd ?_
      refine WD.stp rfl rfl rfl rfl (by first | exact stp_box rfl rfl | exact stp_box1 rfl rfl) ?_
      rintro _ w6 ⟨bb, rfl, n6⟩
      refine ⟨n6.ext, ?_⟩
      refine zsd ?_
      have e2 := n2.num
      have e6 := n6.num
      have z1 := x1.size
      have z2 := n2.size
      have z3 := n3.size
      have z4 := n4.size
      have z5 := x5.size
      have z6 := n6.size
      exact ⟨rfl, rfl, bb, nb, c0, c1, b, w4.heap.size, w5.heap.size, _, _, s, ⟨rfl, rfl, trivial⟩, (x04.trans x5).trans n6.ext, by omega, by omega, by omega, by omega, n6.has, (((n2.has.ext' n3.ext).ext' n4.ext).ext' x5).ext' n6.ext, (h04.ext' x5).ext' n6.ext, (h1.ext' x5).ext' n6.ext, he.to n6.ext rfl (.inl (by show nb < _; omega))⟩
  · rintro e' w1 h1
    obtain ⟨nb, bb, s, hs, x, hN⟩ := h1.nst hp hV hwd
    obtain ⟨c, hc1, hc2⟩ := build2 (a := a) (cp := cp) (p := p) hN (fun d hd => hd) (hd.ext x) hpb
    exact W.useA (e' := [(0, .slice a D.length cp), (3, pt bb)]) ⟨c, hc1, hc2.mono (fin_imp fun v w' ⟨v1, k0, k⟩ => ⟨v1, k0, nb, bb, w1, x, k⟩)⟩ rfl hs
end Go.Proofs.YtlemfkbhcleopaaGreatDoor
namespace Go.Proofs.YtlemfkbhcleopaaGreatDoor
open Go Go.Kd Go.ChangeShapes Go.WideShapes
set_option maxRecDepth 100000

theorem lists_of {α : Type} {n : Nat} {p : Nat → α → Prop} (h : ∀ i, i < n → ∃ x, p i x) : ∃ l : List α, l.length = n ∧ ∀ i x, l[i]? = some x → p i x := by
  induction n with
  | zero => exact ⟨[], rfl, fun i x h => by simp at h⟩
  | succ n ih =>
    obtain ⟨l, h1, h2⟩ := ih fun i hi => h i (by omega)
    obtain ⟨x, hx⟩ := h n (by omega)
    refine ⟨l ++ [x], by simp [h1], fun i y hy => ?_⟩
    by_cases hi : i < l.length
    · rw [List.getElem?_append_left hi] at hy
      exact h2 i y hy
    · have hlt := (List.getElem?_eq_some_iff.1 hy).1
      simp at hlt
      obtain rfl : i = l.length := by omega
      simp at hy
      subst hy
      rw [h1]; exact hx
section
variable {H : Type} {enc : TypeId × Value → H} {W : World} {sp : Nat → Bool} {held : Bool}
theorem bulk_sum {α : Type} (B : α → Nat) : ∀ (es : List α) (ds : List (DataW H)), es.length = ds.length → (∀ (i : Nat) e d, es[i]? = some e → ds[i]? = some d → B e ≤ Rows.uptoBulk d) → (es.map B).sum ≤ Rows.uptoBulkAll ds
  | [], [], _, _ => Nat.zero_le _
  | e :: es, d :: ds, hl, h => by
    have h0 := h 0 e d rfl rfl
    have := bulk_sum B es ds (by simpa using hl) fun i e d he hd => h (i + 1) e d (by simpa using he) (by simpa using hd)
    simp only [List.map_cons, List.sum_cons, Rows.uptoBulkAll]
    omega
  | [], _ :: _, hl, _ => by simp at hl
  | _ :: _, [], hl, _ => by simp at hl
theorem cells_open {a : Addr} {k sz : Nat} {cs : List Value} (hs : a.spot = none) (h : W.cells? 0 (a.add k) sz = some cs) : Cells W a.block (a.off + k) cs ∧ cs.length = sz := by
  obtain ⟨b, o, s⟩ := a
  simp at hs
  subst hs
  obtain ⟨_, h2, h3⟩ := World.cells?_some h
  refine ⟨fun j v hv => ?_, h2⟩
  have hj := (List.getElem?_eq_some_iff.1 hv).1
  have := h3 j (by omega)
  rw [Go.WideShapes.add_plain, Go.WideShapes.add_plain] at this
  rw [← hv]; exact this
theorem slice_open {α : Type} (R : List Value → α → Prop) (B : α → Nat) {P : Program} {t e fuel sz : Nat} {c : Value} {x : DataW H × List MemPlace} (ht : P.underlying t = some (.slice e)) (hsz : P.cellsOf e = sz) (hpos : 0 < sz) (h : DataW.trod enc P W 0 sp held fuel t [c] = some x)
    (ih : ∀ n, n < fuel → ∀ cs y, DataW.trod enc P W 0 sp held n e cs = some y → ∃ a, R cs a ∧ B a ≤ Rows.uptoBulk y.1) :
    ∃ (a : Option Addr) (cp : Nat) (es : List α) (f : Nat → List Value), c = .slice a es.length cp ∧ es.length ≤ cp ∧ SlC W (fun b => b < W.heap.size) sz a es.length f ∧ (∀ (i : Nat) e, es[i]? = some e → R (f i) e) ∧ (es.map B).sum + 1 ≤ Rows.uptoBulk x.1 := by
  rcases DataW.trod_slice ht h with ⟨h1, rfl⟩ | ⟨a, len, cap, elems, rest, n, rfl, h1, rfl, _, hlc, _, hlen, hel, _⟩
  · simp at h1
    subst h1
    exact ⟨none, 0, [], fun _ => [], rfl, Nat.le_refl _, fun i hi => by simp at hi, fun i e he => by simp at he, by simp [Rows.uptoBulk]⟩
  · simp at h1
    subst h1
    rw [hsz] at hel
    have key : ∀ i, i < len → ∃ q : List Value × α × DataW H, W.cells? 0 (a.add (i * sz)) sz = some q.1 ∧ R q.1 q.2.1 ∧ B q.2.1 ≤ Rows.uptoBulk q.2.2 ∧ (elems.map (·.1))[i]? = some q.2.2 := fun i hi => by
      have h2 := hel i hi
      rw [List.getElem?_eq_getElem (by omega), Option.bind_eq_some_iff] at h2
      obtain ⟨cs, h3, h4⟩ := h2
      obtain ⟨q, h5, h6⟩ := ih n (Nat.lt_succ_self n) cs _ h4
      exact ⟨(cs, q, elems[i].1), h3, h5, h6, by rw [List.getElem?_map, List.getElem?_eq_getElem (by omega)]; rfl⟩
    obtain ⟨l, hl, hall⟩ := lists_of key
    have hmb : (l.map fun q => q.2.1).length = len := by rw [List.length_map, hl]
    have hat : ∀ i, i < len → ∃ q, l[i]? = some q := fun i hi => ⟨_, List.getElem?_eq_getElem (by omega)⟩
    have hfi : ∀ (i : Nat) q, l[i]? = some q → (l.map (·.1)).getD i [] = q.1 := fun i q hq => by
      rw [List.getD_eq_getElem?_getD, List.getElem?_map, hq]
      rfl
    refine ⟨some a, cap, l.map fun q => q.2.1, fun i => (l.map (·.1)).getD i [], by rw [hmb], by omega, fun i hi => ?_, fun i e he => ?_, ?_⟩
    · rw [hmb] at hi
      obtain ⟨q0, hq0⟩ := hat 0 (by omega)
      obtain ⟨q, hq⟩ := hat i hi
      obtain ⟨k0, _⟩ := hall 0 q0 hq0
      obtain ⟨k1, _⟩ := hall i q hq
      have hs : a.spot = none := by
        obtain ⟨_, h2, h3⟩ := World.cells?_some k0
        have h4 := h3 0 hpos
        rw [List.getElem?_eq_getElem (by omega)] at h4
        have h5 : (a.add (0 * sz)).add 0 = a := by simp [Addr.add]
        rw [h5] at h4
        unfold World.cell? at h4
        split at h4
        · split at h4
          · cases h4
          · rename_i hns
            simpa using hns
        · cases h4
      have hb : a.block < W.heap.size := by
        have h1 := World.cells?_block k0 hpos
        have h5 : a.add (0 * sz) = a := by simp [Addr.add]
        rwa [h5] at h1
      obtain ⟨b, o, s⟩ := a
      simp at hs
      subst hs
      exact ⟨b, o, rfl, hb, by show Cells W b (o + i * sz) ((l.map (·.1)).getD i []); rw [hfi i q hq]; exact (cells_open rfl k1).1⟩
    · rw [List.getElem?_map, Option.map_eq_some_iff] at he
      obtain ⟨q, hq, rfl⟩ := he
      show R ((l.map (·.1)).getD i []) q.2.1
      rw [hfi i q hq]
      exact (hall i q hq).2.1
    · have := bulk_sum B (l.map fun q => q.2.1) (elems.map (·.1)) (by rw [hmb, List.length_map, hlen]) fun i e d he hd => by
        rw [List.getElem?_map, Option.map_eq_some_iff] at he
        obtain ⟨q, hq, rfl⟩ := he
        obtain ⟨_, _, k3, k4⟩ := hall i q hq
        rw [k4] at hd
        cases hd
        exact k3
      simp only [Rows.uptoBulk]
      omega
theorem wts_sum : ∀ l : List Ty, wts l = (l.map wt).sum
  | [] => by simp [wts]
  | e :: r => by simp only [wts, List.map_cons, List.sum_cons, wts_sum r]

theorem cT : Tryz.prog.cellsOf 26 = 8 := by kernel_rfl
theorem cM : Tryz.prog.cellsOf 36 = 9 := by kernel_rfl
theorem cD : Tryz.prog.cellsOf 34 = 12 := by kernel_rfl
theorem cI : Tryz.prog.cellsOf 3 = 1 := by kernel_rfl
theorem cK : Tryz.prog.cellsOf 23 = 1 := by kernel_rfl
theorem cB : Tryz.prog.cellsOf 4 = 1 := by kernel_rfl
theorem cS : Tryz.prog.cellsOf 9 = 1 := by kernel_rfl
theorem cLT : Tryz.prog.cellsOf 24 = 1 := by kernel_rfl
theorem cLM : Tryz.prog.cellsOf 32 = 1 := by kernel_rfl
theorem list8 {α : Type} {l : List α} (h : l.length = 8) : ∃ a b c d e f g i, l = [a, b, c, d, e, f, g, i] := by
  match l, h with
  | [a, b, c, d, e, f, g, i], _ => exact ⟨a, b, c, d, e, f, g, i, rfl⟩
theorem one {α : Type} {a b : α} (h : [a] = [b]) : a = b := by simpa using h
theorem bulk_str (s : ByteArray) : Rows.uptoBulk (DataW.lit (H := H) (.string s.data.toList)) = s.size + 1 := by
  simp only [Rows.uptoBulk, Array.length_toList]; rfl
theorem ty_open : ∀ (fuel : Nat) (cs : List Value) (x : DataW H × List MemPlace), DataW.trod enc Tryz.prog W 0 sp held fuel 26 cs = some x → ∃ t, TyV W (fun b => b < W.heap.size) cs t ∧ wt t ≤ Rows.uptoBulk x.1 := by
  intro fuel
  induction fuel using Nat.strongRecOn with
  | ind fuel ih =>
    intro cs x h
    obtain ⟨xs, n, rfl, rfl, hl, hlen, hf⟩ := DataW.trod_struct Tryz.underlying26 h
    rw [cT] at hl
    obtain ⟨c0, c1, c2, c3, c4, c5, c6, c7, rfl⟩ := list8 hl
    obtain ⟨x0, x1, x2, x3, x4, x5, x6, x7, rfl⟩ := list8 (l := xs) hlen
    have h0 : DataW.trod enc Tryz.prog W 0 sp held n 23 [c0] = some x0 := by
      have h := hf 0 _ rfl
      change DataW.trod enc Tryz.prog W 0 sp held n 23 (List.take (Tryz.prog.cellsOf 23) (List.drop 0 [c0, c1, c2, c3, c4, c5, c6, c7])) = some x0 at h
      rw [cK] at h
      exact h
    have h1 : DataW.trod enc Tryz.prog W 0 sp held n 3 [c1] = some x1 := by
      have h := hf 1 _ rfl
      change DataW.trod enc Tryz.prog W 0 sp held n 3 (List.take (Tryz.prog.cellsOf 3) (List.drop 1 [c0, c1, c2, c3, c4, c5, c6, c7])) = some x1 at h
      rw [cI] at h
      exact h
    have h2 : DataW.trod enc Tryz.prog W 0 sp held n 3 [c2] = some x2 := by
      have h := hf 2 _ rfl
      change DataW.trod enc Tryz.prog W 0 sp held n 3 (List.take (Tryz.prog.cellsOf 3) (List.drop 2 [c0, c1, c2, c3, c4, c5, c6, c7])) = some x2 at h
      rw [cI] at h
      exact h
    have h3 : DataW.trod enc Tryz.prog W 0 sp held n 4 [c3] = some x3 := by
      have h := hf 3 _ rfl
      change DataW.trod enc Tryz.prog W 0 sp held n 4 (List.take (Tryz.prog.cellsOf 4) (List.drop 3 [c0, c1, c2, c3, c4, c5, c6, c7])) = some x3 at h
      rw [cB] at h
      exact h
    have h4 : DataW.trod enc Tryz.prog W 0 sp held n 24 [c4] = some x4 := by
      have h := hf 4 _ rfl
      change DataW.trod enc Tryz.prog W 0 sp held n 24 (List.take (Tryz.prog.cellsOf 24) (List.drop 4 [c0, c1, c2, c3, c4, c5, c6, c7])) = some x4 at h
      rw [cLT] at h
      exact h
    have h5 : DataW.trod enc Tryz.prog W 0 sp held n 9 [c5] = some x5 := by
      have h := hf 5 _ rfl
      change DataW.trod enc Tryz.prog W 0 sp held n 9 (List.take (Tryz.prog.cellsOf 9) (List.drop 5 [c0, c1, c2, c3, c4, c5, c6, c7])) = some x5 at h
      rw [cS] at h
      exact h
    have h6 : DataW.trod enc Tryz.prog W 0 sp held n 9 [c6] = some x6 := by
      have h := hf 6 _ rfl
      change DataW.trod enc Tryz.prog W 0 sp held n 9 (List.take (Tryz.prog.cellsOf 9) (List.drop 6 [c0, c1, c2, c3, c4, c5, c6, c7])) = some x6 at h
      rw [cS] at h
      exact h
    have h7 : DataW.trod enc Tryz.prog W 0 sp held n 4 [c7] = some x7 := by
      have h := hf 7 _ rfl
      change DataW.trod enc Tryz.prog W 0 sp held n 4 (List.take (Tryz.prog.cellsOf 4) (List.drop 7 [c0, c1, c2, c3, c4, c5, c6, c7])) = some x7 at h
      rw [cB] at h
      exact h
    obtain ⟨k, e0, rfl, _⟩ := DataW.trod_int Tryz.underlying23 h0
    obtain ⟨m, e1, rfl, _⟩ := DataW.trod_int Tryz.underlying3 h1
    obtain ⟨c, e2, rfl, _⟩ := DataW.trod_int Tryz.underlying3 h2
    obtain ⟨vr, e3, rfl⟩ := DataW.trod_bool Tryz.underlying4 h3
    obtain ⟨nm, e5, rfl, _⟩ := DataW.trod_string Tryz.underlying9 h5
    obtain ⟨tg, e6, rfl, _⟩ := DataW.trod_string Tryz.underlying9 h6
    obtain ⟨em, e7, rfl⟩ := DataW.trod_bool Tryz.underlying4 h7
    obtain rfl := one e0
    obtain rfl := one e1
    obtain rfl := one e2
    obtain rfl := one e3
    obtain rfl := one e5
    obtain rfl := one e6
    obtain rfl := one e7
    obtain ⟨a, cp, es, f, rfl, hcp, hsl, hR, hB⟩ := slice_open (TyV W (fun b => b < W.heap.size)) wt Tryz.underlying24 cT (by decide) h4 fun q hq => ih q (by omega)
    refine ⟨_, .mk k m c vr es nm tg em a cp f hR hsl hcp, ?_⟩
    rw [wt_eq]
    simp only [Ty.elems, Ty.name, Ty.tag, wts_sum, List.map_cons, List.map_nil, Rows.uptoBulk, Rows.uptoBulkAll, Array.length_toList]
    have k5 : nm.data.size = nm.size := rfl
    have k6 : tg.data.size = tg.size := rfl
    omega
theorem me_open (fuel : Nat) (cs : List Value) (x : DataW H × List MemPlace) (h : DataW.trod enc Tryz.prog W 0 sp held fuel 36 cs = some x) : ∃ m : Me, MeV W (fun b => b < W.heap.size) cs m ∧ wt m.fn ≤ Rows.uptoBulk x.1 := by
  obtain ⟨xs, n, rfl, rfl, hl, hlen, hf⟩ := DataW.trod_struct Tryz.underlying36 h
  rw [cM] at hl
  match cs, hl, xs, hlen with
  | c0 :: ts, hl, [x0, x1], _ =>
    have hts : ts.length = 8 := by simpa using hl
    have h0 : DataW.trod enc Tryz.prog W 0 sp held n 4 [c0] = some x0 := by
      have h := hf 0 _ rfl
      change DataW.trod enc Tryz.prog W 0 sp held n 4 (List.take (Tryz.prog.cellsOf 4) (List.drop 0 (c0 :: ts))) = some x0 at h
      rw [cB] at h
      exact h
    have h1 : DataW.trod enc Tryz.prog W 0 sp held n 26 ts = some x1 := by
      have h := hf 1 _ rfl
      change DataW.trod enc Tryz.prog W 0 sp held n 26 (List.take (Tryz.prog.cellsOf 26) (List.drop 1 (c0 :: ts))) = some x1 at h
      rw [cT] at h
      rw [show List.take 8 (List.drop 1 (c0 :: ts)) = ts from by rw [List.drop_succ_cons, List.drop_zero, List.take_of_length_le (by omega)]] at h
      exact h
    obtain ⟨p, e0, rfl⟩ := DataW.trod_bool Tryz.underlying4 h0
    obtain rfl := one e0
    obtain ⟨t, k1, k2⟩ := ty_open n ts x1 h1
    exact ⟨⟨p, t⟩, ⟨ts, rfl, k1⟩, by simp only [List.map_cons, List.map_nil, Rows.uptoBulk, Rows.uptoBulkAll]; omega⟩
theorem de_open (fuel : Nat) (cs : List Value) (x : DataW H × List MemPlace) (h : DataW.trod enc Tryz.prog W 0 sp held fuel 34 cs = some x) : ∃ e : De, DeV W (fun b => b < W.heap.size) cs e ∧ wtDe e ≤ Rows.uptoBulk x.1 := by
  obtain ⟨xs, n, rfl, rfl, hl, hlen, hf⟩ := DataW.trod_struct Tryz.underlying34 h
  rw [cD] at hl
  match cs, hl, xs, hlen with
  | [c0, c1, c2, t0, t1, t2, t3, t4, t5, t6, t7, c3], _, [x0, x1, x2, x3, x4], _ =>
    have h0 : DataW.trod enc Tryz.prog W 0 sp held n 9 [c0] = some x0 := by
      have h := hf 0 _ rfl
      change DataW.trod enc Tryz.prog W 0 sp held n 9 (List.take (Tryz.prog.cellsOf 9) (List.drop 0 [c0, c1, c2, t0, t1, t2, t3, t4, t5, t6, t7, c3])) = some x0 at h
      rw [cS] at h
      exact h
    have h1 : DataW.trod enc Tryz.prog W 0 sp held n 3 [c1] = some x1 := by
      have h := hf 1 _ rfl
      change DataW.trod enc Tryz.prog W 0 sp held n 3 (List.take (Tryz.prog.cellsOf 3) (List.drop 1 [c0, c1, c2, t0, t1, t2, t3, t4, t5, t6, t7, c3])) = some x1 at h
      rw [cI] at h
      exact h
    have h2 : DataW.trod enc Tryz.prog W 0 sp held n 4 [c2] = some x2 := by
      have h := hf 2 _ rfl
      change DataW.trod enc Tryz.prog W 0 sp held n 4 (List.take (Tryz.prog.cellsOf 4) (List.drop 2 [c0, c1, c2, t0, t1, t2, t3, t4, t5, t6, t7, c3])) = some x2 at h
      rw [cB] at h
      exact h
    have h3 : DataW.trod enc Tryz.prog W 0 sp held n 26 [t0, t1, t2, t3, t4, t5, t6, t7] = some x3 := by
      have h := hf 3 _ rfl
      change DataW.trod enc Tryz.prog W 0 sp held n 26 (List.take (Tryz.prog.cellsOf 26) (List.drop 3 [c0, c1, c2, t0, t1, t2, t3, t4, t5, t6, t7, c3])) = some x3 at h
      rw [cT] at h
      exact h
    have h4 : DataW.trod enc Tryz.prog W 0 sp held n 32 [c3] = some x4 := by
      have h := hf 4 _ rfl
      change DataW.trod enc Tryz.prog W 0 sp held n 32 (List.take (Tryz.prog.cellsOf 32) (List.drop 11 [c0, c1, c2, t0, t1, t2, t3, t4, t5, t6, t7, c3])) = some x4 at h
      rw [cLM] at h
      exact h
    obtain ⟨nm, e0, rfl, _⟩ := DataW.trod_string Tryz.underlying9 h0
    obtain ⟨q, e1, rfl, _⟩ := DataW.trod_int Tryz.underlying3 h1
    obtain ⟨al, e2, rfl⟩ := DataW.trod_bool Tryz.underlying4 h2
    obtain rfl := one e0
    obtain rfl := one e1
    obtain rfl := one e2
    obtain ⟨t, k1, k2⟩ := ty_open n _ x3 h3
    obtain ⟨a, cp, es, f, rfl, hcp, hsl, hR, hB⟩ := slice_open (MeV W (fun b => b < W.heap.size)) (fun m => wt m.fn) Tryz.underlying32 cM (by decide) h4 fun q _ => me_open q
    refine ⟨⟨nm, q, al, t, es⟩, ⟨_, a, cp, f, rfl, k1, hsl, hR⟩, ?_⟩
    have k5 : nm.data.size = nm.size := rfl
    simp only [wtDe, wtM, List.map_cons, List.map_nil, Rows.uptoBulk, Rows.uptoBulkAll, Array.length_toList] at hB ⊢
    omega
/-- declarations among the arguments -/
theorem ds_of {v : Value} {base : Nat} {d : DataW H} {ps : List MemPlace} (hv : Value.okWide Tryz.prog W .any base 22 v) (h : DataW.Trod enc Tryz.prog W 0 sp held 22 v d ps) : ∃ (D : List De) (a : Option Addr) (cp : Nat), v = .slice a D.length cp ∧ DsV W (fun b => b < W.heap.size) v D ∧ wtD D + 1 ≤ Rows.uptoBulk d := by
  obtain ⟨a0, len, cap, rfl⟩ := okWide_slice Tryz.underlying22 hv
  obtain ⟨fuel, hf⟩ := h
  obtain ⟨a, cp, es, f, he, hcp, hsl, hR, hB⟩ := slice_open (DeV W (fun b => b < W.heap.size)) wtDe Tryz.underlying22 cD (by decide) hf fun q _ => de_open q
  exact ⟨es, a, cp, he, ⟨a, cp, f, he, hsl, hR⟩, hB⟩
/-- a type among the arguments -/
theorem ty_of {v : Value} {base : Nat} {d : DataW H} {ps : List MemPlace} (hv : Value.okWide Tryz.prog W .any base 26 v) (h : DataW.Trod enc Tryz.prog W 0 sp held 26 v d ps) : ∃ (t : Ty) (a : Option Addr) (cp : Nat), v = .agg (tyc t a cp).toArray ∧ TysV W (fun b => b < W.heap.size) a cp t.elems ∧ wt t ≤ Rows.uptoBulk d := by
  obtain ⟨cs, rfl, _⟩ := okWide_struct Tryz.underlying26 hv
  obtain ⟨fuel, hf⟩ := h
  obtain ⟨t, k1, k2⟩ := ty_open fuel _ _ hf
  obtain ⟨a, cp, k3, k4⟩ := k1.tys
  refine ⟨t, a, cp, ?_, k4, k2⟩
  rw [show cs = cs.toList.toArray from by simp]
  have : cs.toList = tyc t a cp := k3
  rw [this]
end
end Go.Proofs.YtlemfkbhcleopaaGreatDoor
namespace Go.Proofs.YtlemfkbhcleopaaGreatDoor
open Go Go.Kd Go.ChangeShapes Go.WideShapes Go.ChangeAt Go.RowKit
set_option maxRecDepth 100000

def nums : DataW Unit → List Int
  | .agg l => l.map fun d => match d with | .lit (.int _ z) => z | _ => 0
  | _ => []
def prpOk (zs : List Int) : Bool := (List.range 128).all fun n => match zs[n]? with
  | some (.ofNat v) => decide (v < 256) && (decide (v &&& 96 = 32) == (decide (65 ≤ n) && decide (n ≤ 90)))
  | _ => false
theorem prp_laid {W : World} (h : laidMetH Tryz.prog theLaid W) : Prp W := by
  have h : laidMet Tryz.prog theLaid W := h
  obtain ⟨ps, ⟨_, _, _, _, _, _, _, _, _, _, h2, _⟩, _⟩ := h
  obtain ⟨g, t, cs, fuel, p, q, hg, ht, hvar, hd, _, _⟩ := h2
  have hg0 : Tryz.prog.globalNamed "unicode.properties" = some gP := by kernel_rfl
  obtain rfl := Option.some.inj (hg0.symm.trans hg)
  have hty : (Tryz.prog.globals[gP]?).map (·.type) = some 331 := by kernel_rfl
  obtain rfl := Option.some.inj (hty.symm.trans ht)
  have hcs := Lib.cells_of_tab (k := .u8) (zs := nums Rows.laid_unicode_properties) Tryz.underlying331 Tryz.underlying5 (by kernel_rfl) (by kernel_rfl) hd
  have hok : prpOk (nums Rows.laid_unicode_properties) = true := by kernel_rfl
  unfold World.var? at hvar
  rw [hg0] at hvar
  simp only [Option.bind_some] at hvar
  split at hvar
  · rename_i cs' t' fz hh
    have e : cs' = cs := Option.some.inj hvar
    refine ⟨cs', t', fz, hh, fun n hn => ?_⟩
    have h3 := List.all_eq_true.1 hok n (List.mem_range.2 hn)
    have h4 : cs'[n]? = ((nums Rows.laid_unicode_properties).map fun z => Value.int .u8 z)[n]? := by rw [e, ← hcs]; simp
    rw [h4, List.getElem?_map]
    split at h3
    · rename_i v hv
      rw [hv]
      simp only [Bool.and_eq_true, decide_eq_true_eq, beq_iff_eq] at h3
      refine ⟨v, rfl, h3.1, ?_⟩
      have h5 := h3.2
      constructor
      · intro h6
        rw [decide_eq_true h6] at h5
        simpa using h5.symm
      · intro h6
        rw [decide_eq_true h6.1, decide_eq_true h6.2] at h5
        simpa using h5
    · cases h3
  · cases hvar
theorem small_of {H : Type} {l : List (DataW H)} (h : Rows.uptoSmall H l = true) : Rows.uptoBulkAll l ≤ 1048576 := of_decide_eq_true h
end Go.Proofs.YtlemfkbhcleopaaGreatDoor
namespace Go.Proofs.YtlemfkbhcleopaaGreatDoor
open Go Go.Kd
set_option maxRecDepth 100000

theorem isIf_norm (y : Ty) : isIf y ↔ (norm y).kind = 9 := by
  refine ⟨isIf.norm9, fun h => ?_⟩
  rcases norm_cases y with ⟨h1, h2⟩ | ⟨h1, h2, _⟩ | ⟨h1, h2, _⟩
  · rw [h2] at h; exact .inl h
  · omega
  · exact .inr ⟨h1, h2⟩
theorem RT.kinds {K : Cfg} {s : Gs} {w : World} {p : Nat → Prop} {v : Value} {t : Ty} (h : RT K s w p v t) : 0 ≤ t.kind ∧ t.kind ≤ 9 := by cases h <;> omega
theorem dynT_if {y : Ty} (hl : isLit y) (h0 : 0 ≤ y.kind) (h9 : y.kind ≤ 9) : dynT y = tPI ↔ isIf y := by
  refine ⟨fun h => ?_, isIf.dyn⟩
  unfold dynT at h
  by_cases k0 : y.kind = 0
  · rw [if_pos k0] at h
    by_cases k1 : y.n = 21
    · exact .inr ⟨k0, k1⟩
    · rw [if_neg k1] at h
      exact absurd h (by decide)
  rw [if_neg k0] at h
  split at h
  · exact absurd h (by decide)
  split at h
  · exact absurd h (by decide)
  split at h
  · exact absurd h (by decide)
  split at h
  · exact absurd h (by decide)
  split at h
  · exact absurd h (by decide)
  split at h
  · exact absurd h (by decide)
  split at h
  · exact absurd h (by decide)
  exact .inl (by have := hl.1; omega)
/-- what build answers, in short -/
theorem c_build' {D : List De} {w0 : World} {a : Option Addr} {cp : Nat} {p : Nat → Prop} (hp : Prp w0) (hV : ValidD D) (hwd : wtD D ≤ 16777216) (hd : DsV w0 p (.slice a D.length cp) D) (hpb : ∀ b, p b → b < w0.heap.size) :
    Calls Tryz.prog 38 #[.slice a D.length cp] w0 (Ret fun r w' => ∃ K s bb, r = pt bb ∧ K.D = D ∧ K.N = w0.heap.size ∧ Ext w0 w' ∧ Blt K s w' bb) := by
  refine (c_build hp hV hwd hd hpb).mono fun x w' ⟨v, k0, nb, bb, w1, x1, s, base, msv, mfb, k1, k2, k3, k4, k5⟩ => ⟨v, k0, ⟨w0.heap.size, nb, D⟩, s, bb, k1, rfl, rfl, ⟨x1.below.trans k2⟩, k4⟩
theorem rdy_good {K : Cfg} {t : Ty} (h : Shaped K.D K.D.length true t) : Rdy K K.D.length t := fun hk => by
  have hs := h.shape
  have r2 := hs.n0 (by rw [hk]; simp [limitN]; try omega)
  have r3 := hs.nm hk (.inl rfl)
  exact ⟨r2, by omega, by omega⟩
theorem ext_sta {K : Cfg} {l : Nat} {w0 w w' : World} (x : Ext w0 w) (hN : w0.heap.size ≤ K.N) (s : Sta K l w w') : Ext w0 w' := ⟨x.below.trans ⟨s.os, s.tape, s.output, s.size, fun d hd => s.old d (by omega) (by have := x.size; omega)⟩⟩
end Go.Proofs.YtlemfkbhcleopaaGreatDoor
namespace Go.Proofs.YtlemfkbhcleopaaGreatDoor
open Go Go.Kd
set_option maxRecDepth 100000

theorem c_zzFits1 (t : Ty) (a1 : Option Addr) (c1 : Nat) (w : World) (hwt : wt t ≤ 16777216) : Calls Tryz.prog 11 #[.agg (tyc t a1 c1).toArray] w (Ret fun r w' => r = .bool true ∧ Ext w w') := by
  have hl : t.elems.length ≤ 16777216 := by
    have h1 : ∀ l : List Ty, l.length ≤ wts l := fun l => by
      induction l with
      | nil => exact Nat.zero_le _
      | cons e r ih =>
        have := wt_pos e
        simp only [List.length_cons, wts]
        omega
    have := h1 t.elems
    have := wt_eq t
    omega
  have hn : t.name.size ≤ 16777216 := by have := wt_eq t; omega
  have hg : t.tag.size ≤ 16777216 := by have := wt_eq t; omega
  refine W.enter (args := [.agg (tyc t a1 c1).toArray]) Tryz.func11 rfl Tryz.ntmps11 rfl rfl ?_
  refine zst ?_
  refine WU.stp rfl rfl rfl (by first | exact stp_box rfl rfl | exact stp_box1 rfl rfl) ?_
  rintro _ w1 ⟨b1, rfl, n1⟩
  have ib1 : Has w1 b1 (.cells (tyc t a1 c1).toArray 26) := n1.has
  refine zst ?_
  rw [show decide ((2147483647 : Int) < (t.elems.length : Int)) = false by simp; omega]
  refine zst ?_
  rw [show decide ((2147483647 : Int) < (t.name.size : Int)) = false by simp; omega]
  refine zst ?_
  rw [show decide ((2147483647 : Int) < (t.tag.size : Int)) = false by simp; omega]
  refine zst ?_
  exact fin1 (.inl rfl) rfl rfl ⟨rfl, n1.ext⟩
theorem tys_one {w : World} {t : Ty} {a : Option Addr} {c r : Nat} (hr : Has w r (.cells (tyc t a c).toArray 26)) {p : Nat → Prop} (hp : p r) (ht : TysV w p a c t.elems) : TysV w p (some ⟨r, 0, none⟩) 1 [t] :=
  ⟨Nat.le_refl _, fun _ => tyc t a c, fun i hi => ⟨r, 0, rfl, hp, by
    obtain rfl : i = 0 := by simpa using hi
    exact Cells.has hr⟩, fun i e he => by
    match i with
    | 0 => simp at he; subst he; exact .of_tys ht
    | i + 1 => simp at he⟩

end Go.Proofs.YtlemfkbhcleopaaGreatDoor
namespace Go.Kd
variable {P : Program} {e : Env} {w : World} {d : Option Tmp} {ty t t2 : TypeId} {pos : String} {aft : Array Edge} {g : Option (Nat × Bool)} {x y z : Operand}
theorem run_equal_ifo {u : TypeId} {ms : Array (String × TypeId)} [h : Und P t (.interface ms)] [hp : PtrT P u] [hc : CmpT P u] {a b : Option Addr} (ha : ∀ c, a = some c → Pl w c.block) (hb : ∀ c, b = some c → Pl w c.block) :
    (Op.equal t (.iface u (.pointer a)) (.iface u (.pointer b))).run P w = .ok (decide (a = b)) w := by
  obtain ⟨i, h1, h2⟩ := hc.at_
  obtain ⟨el, j, h3, h4, h5⟩ := hp.at_
  have hk : ∀ k : Nat, (Op.equalIn (k + 1) u (.pointer a) (.pointer b)).run P w = .ok (decide (a = b)) w := fun k => by
    cases a with
    | none => cases b <;> simp [Op.equalIn, run_underlying h3]
    | some a => cases b with
      | none => simp [Op.equalIn, run_underlying h3]
      | some b =>
        rw [run_equalIn_ptr (ha a rfl) (hb b rfl)]
        simp
  have hq : ∀ k : Nat, (Op.equalIn (k + 1 + 1) t (.iface u (.pointer a)) (.iface u (.pointer b))).run P w = .ok (decide (a = b)) w := fun k => by
    rw [Op.equalIn]
    simp [run_underlying h.at_, typeInfo, h1, h2, hk k]
  exact hq 9998
/-- two interface values that hold pointers -/
theorem yld_eql_ifo {u u2 : TypeId} {ms : Array (String × TypeId)} [h : Und P t (.interface ms)] {a b : Option Addr} (hp : u = u2 → PtrT P u) (hc : u = u2 → CmpT P u) (hx : ev e x = some (.iface u (.pointer a))) (hy : ev e y = some (.iface u2 (.pointer b))) (ha : ∀ c, a = some c → Pl w c.block) (hb : ∀ c, b = some c → Pl w c.block) :
    Yld P e ⟨d, .binOp .eql t x y t2, ty, pos, aft, g⟩ (.bool (decide (u = u2 ∧ a = b))) w := ⟨fun ρ hρ w' hw => by
  by_cases hu : u = u2
  · subst hu
    have := hp rfl
    have := hc rfl
    have he := run_equal_ifo (P := P) (t := t) (u := u) (w := w') (a := a) (b := b) (fun c hc => (ha c hc).ext' hw) (fun c hc => (hb c hc).ext' hw)
    rw [show decide (u = u ∧ a = b) = decide (a = b) from by simp]
    exact run_binOp_plain (hρ x _ hx) (hρ y _ hy) eqGuard_if (by simp only [binOp, Sem.run_bind, he, Result.andThen_ok]; rfl)
  · rw [decide_eq_false (fun h => hu h.1)]
    exact (yld_eql_ift hu hx hy).out ρ hρ w' hw⟩
end Go.Kd
namespace Go.Proofs.YtlemfkbhcleopaaGreatDoor
open Go Go.Kd
set_option maxRecDepth 100000

abbrev tPR : Nat := 219
abbrev prc (x y : Nat) (a : Option Addr) : Array Value := #[pt x, pt y, .pointer a]
theorem c_pair (p q x y x' y' : Nat) (a a' : Option Addr) (w : World) (hp : Has w p (.cells (prc x y a) tPR)) (hq : Has w q (.cells (prc x' y' a') tPR)) (hx : Pl w x) (hy : Pl w y) (hx' : Pl w x') (hy' : Pl w y') (hne : ¬ (x = x' ∧ y = y')) (hne' : ¬ (x = y' ∧ y = x')) :
    Calls Tryz.prog 125 #[pt p, pt q] w (Ret fun r w' => r = .bool false ∧ Ext w w') := by
  refine W.enter (args := [pt p, pt q]) Tryz.func125 rfl Tryz.ntmps125 rfl rfl ?_
  refine zst ?_
  refine W.regD [(0, .q), (1, .q), (2, .q), (3, .q), (4, .q), (5, .q), (6, .q), (7, .q), (8, .q), (9, .q), (10, .q), (11, .q), (12, .q), (13, .q), (14, .q), (15, .q), (16, .q), (17, .q), (18, .q), (19, .q), (20, .q), (21, .q), (22, .q), (23, .q), (24, .q), (25, .q), (26, .q), (27, .q), (28, .q), (29, .q), (30, .q), (31, .q), (32, .q), (33, .q), (34, .q), (35, .q), (36, .q), (37, .q), (38, .q), (39, .q), (40, .q), (41, .q), (42, .q)] (by kernel_rfl) (by kernel_rfl) rfl ?_
  intro w1 x1 _
  have kp := hp.ext' x1
  have kq := hq.ext' x1
  have px := hx.ext' x1
  have py := hy.ext' x1
  have px' := hx'.ext' x1
  have py' := hy'.ext' x1
  refine zsd ?_
  refine WD.yld rfl rfl rfl rfl (yld_eql_ptr rfl rfl) ?_
  by_cases h1 : x = x'
  · have h2 : y ≠ y' := fun h => hne ⟨h1, h⟩
    rw [decide_eq_true (show (⟨x, 0, none⟩ : Addr) = ⟨x', 0, none⟩ by rw [h1])]
    refine zsd ?_
    refine WD.yld rfl rfl rfl rfl (yld_eql_ptr rfl rfl) ?_
    rw [decide_eq_false (show ¬ (⟨y, 0, none⟩ : Addr) = ⟨y', 0, none⟩ from fun h => h2 (congrArg Addr.block h))]
    refine zsd ?_
    refine WD.yld rfl rfl rfl rfl (yld_eql_ptr rfl rfl) ?_
    by_cases h3 : x = y'
    · rw [decide_eq_true (show (⟨x, 0, none⟩ : Addr) = ⟨y', 0, none⟩ by rw [h3])]
      refine zsd ?_
      refine WD.yld rfl rfl rfl rfl (yld_eql_ptr rfl rfl) ?_
      rw [decide_eq_false (show ¬ (⟨y, 0, none⟩ : Addr) = ⟨x', 0, none⟩ from fun h => hne' ⟨h3, congrArg Addr.block h⟩)]
      refine zsd ?_
      refine zst ?_
      exact fin1 (.inl rfl) rfl rfl ⟨rfl, x1⟩
    · rw [decide_eq_false (show ¬ (⟨x, 0, none⟩ : Addr) = ⟨y', 0, none⟩ from fun h => h3 (congrArg Addr.block h))]
      refine zsd ?_
      refine zst ?_
      exact fin1 (.inl rfl) rfl rfl ⟨rfl, x1⟩
  · rw [decide_eq_false (show ¬ (⟨x, 0, none⟩ : Addr) = ⟨x', 0, none⟩ from fun h => h1 (congrArg Addr.block h))]
    refine zsd ?_
    refine WD.yld rfl rfl rfl rfl (yld_eql_ptr rfl rfl) ?_
    by_cases h3 : x = y'
    · rw [decide_eq_true (show (⟨x, 0, none⟩ : Addr) = ⟨y', 0, none⟩ by rw [h3])]
      refine zsd ?_
      refine WD.yld rfl rfl rfl rfl (yld_eql_ptr rfl rfl) ?_
      rw [decide_eq_false (show ¬ (⟨y, 0, none⟩ : Addr) = ⟨x', 0, none⟩ from fun h => hne' ⟨h3, congrArg Addr.block h⟩)]
      refine zsd ?_
      refine zst ?_
      exact fin1 (.inl rfl) rfl rfl ⟨rfl, x1⟩
    · rw [decide_eq_false (show ¬ (⟨x, 0, none⟩ : Addr) = ⟨y', 0, none⟩ from fun h => h3 (congrArg Addr.block h))]
      refine zsd ?_
      refine zst ?_
      exact fin1 (.inl rfl) rfl rfl ⟨rfl, x1⟩
end Go.Proofs.YtlemfkbhcleopaaGreatDoor
namespace Go.Proofs.YtlemfkbhcleopaaGreatDoor
open Go Go.Kd
set_option maxRecDepth 100000

mutual
def dX : X → Nat
  | .leaf _ _ => 0
  | .node _ _ _ _ _ es => dXs es + 1
def dXs : List X → Nat
  | [] => 0
  | x :: r => max (dX x) (dXs r)
end
theorem dXs_at : ∀ {l : List X} {i : Nat} {x : X}, l[i]? = some x → dX x ≤ dXs l
  | [], i, x, h => by simp at h
  | a :: r, 0, x, h => by simp at h; subst h; simp only [dXs]; exact Nat.le_max_left _ _
  | a :: r, i + 1, x, h => by
    have := dXs_at (l := r) (i := i) (by simpa using h)
    simp only [dXs]
    exact Nat.le_trans this (Nat.le_max_right _ _)
theorem dX_at {k n c : Int} {vr : Bool} {an : List An} {es : List X} {i : Nat} {x : X} (h : es[i]? = some x) : dX x < dX (.node k n c vr an es) := by
  have := dXs_at h
  simp only [dX]
  omega
theorem Exp.congr {D : List De} {t t' : Ty} {x : X} (hu : unaliasT D t = unaliasT D t') (h : Exp D t x) : Exp D t' x := by
  cases h with
  | leaf _ hk => rw [hu] at hk ⊢; exact .leaf t' hk
  | plain _ es h2 h8 hl he => rw [hu] at h2 h8 hl he ⊢; exact .plain t' es h2 h8 hl he
  | iface _ ms es h9 hi hl he => rw [hu] at h9 hi; exact .iface t' ms es h9 hi hl he

/-! ### Sorted methods -/
theorem cmpM_congr {m m2 n : Mt} (h : keyM m = keyM m2) : cmpM n m < 0 ↔ cmpM n m2 < 0 := by
  unfold keyM keyOf at h
  obtain ⟨h1, h2⟩ := Prod.ext_iff.1 h
  simp only at h1 h2
  unfold cmpM
  rw [cmpN_lt, cmpN_lt, ← h1]
  rw [← h1] at h2
  cases he : expo m.name.toList
  · rw [he] at h2
    simp only [Bool.false_eq_true, if_false] at h2
    rw [h2]
  · constructor <;> rintro (h | h | ⟨e, h, _⟩)
    · exact .inl h
    · exact .inr (.inl h)
    · rw [e, he] at h; cases h
    · exact .inl h
    · exact .inr (.inl h)
    · rw [e, he] at h; cases h
theorem cmpM_anti (m n : Mt) : cmpM n m = - cmpM m n := cmpN_anti _ _ _ _
theorem srt_keys : ∀ (l l' : List Mt), Srtd l → Srtd l' → l.length = l'.length → (∀ m ∈ l, keyM m ∈ l'.map keyM) → ∀ (i : Nat) m m', l[i]? = some m → l'[i]? = some m' → keyM m = keyM m'
  | [], _, _, _, _, _, i, m, m', h, _ => by simp at h
  | _ :: _, [], _, _, hl, _, _, _, _, _, _ => by simp at hl
  | a :: r, b :: r', hs, hs', hl, hk, i, m, m', h, h' => by
    have hn := hs.nodup
    have hback : ∀ k ∈ (b :: r').map keyM, k ∈ (a :: r).map keyM := sub_all hn (fun k hk' => by
      obtain ⟨m, hm, rfl⟩ := List.mem_map.1 hk'
      exact hk m hm) (by simpa using Nat.le_of_eq hl.symm)
    have hab : keyM a = keyM b := by
      refine Classical.byContradiction fun hne => ?_
      obtain ⟨m2, hm2, e2⟩ := List.mem_map.1 (hk a (List.mem_cons_self ..))
      obtain ⟨m3, hm3, e3⟩ := List.mem_map.1 (hback (keyM b) (List.mem_map_of_mem (List.mem_cons_self ..)))
      have h2 : m2 ∈ r' := (List.mem_cons.1 hm2).resolve_left fun e => hne (by rw [← e2, e])
      have h3 : m3 ∈ r := (List.mem_cons.1 hm3).resolve_left fun e => hne (by rw [← e3, e])
      obtain ⟨j2, hj2⟩ := List.getElem?_of_mem h2
      obtain ⟨j3, hj3⟩ := List.getElem?_of_mem h3
      have c2 := hs' 0 (j2 + 1) b m2 (by omega) rfl (by simpa using hj2)
      have c3 := hs 0 (j3 + 1) a m3 (by omega) rfl (by simpa using hj3)
      rw [cmpM_congr e2] at c2
      rw [cmpM_congr e3] at c3
      have q := cmpM_anti a b
      omega
    match i with
    | 0 =>
      simp at h h'
      subst h h'
      exact hab
    | i + 1 =>
      refine srt_keys r r' (fun i j m m' hij hi hj => hs (i + 1) (j + 1) m m' (by omega) (by simpa using hi) (by simpa using hj)) (fun i j m m' hij hi hj => hs' (i + 1) (j + 1) m m' (by omega) (by simpa using hi) (by simpa using hj)) (by simpa using hl) (fun m hm => ?_) i m m' (by simpa using h) (by simpa using h')
      have h1 := hk m (List.mem_cons_of_mem _ hm)
      rw [List.map_cons] at h1
      refine (List.mem_cons.1 h1).resolve_left fun e => ?_
      rw [List.map_cons, List.nodup_cons] at hn
      exact hn.1 (by rw [hab, ← e]; exact List.mem_map_of_mem hm)
theorem anM_op {ms : List Mt} {i : Nat} {a : An} (h : (anM ms)[i]? = some a) : ∃ m, ms[i]? = some m ∧ keyA a = keyM m ∧ a.name = m.name.toList ∧ a.pkg = m.pkg := by
  unfold anM at h
  rw [List.getElem?_map, Option.map_eq_some_iff] at h
  obtain ⟨m, h1, rfl⟩ := h
  exact ⟨m, h1, rfl, rfl, rfl⟩
theorem anM_of {ms : List Mt} {i : Nat} {m : Mt} (h : ms[i]? = some m) : (anM ms)[i]? = some ⟨m.name.toList, [], m.pkg, false⟩ := by unfold anM; rw [List.getElem?_map, h]; rfl
theorem anM_keys (ms : List Mt) : (anM ms).map keyA = ms.map keyM := by unfold anM; rw [List.map_map]; rfl
theorem key_uniq {ms : List Mt} (hn : (ms.map keyM).Nodup) {m m' : Mt} (h : m ∈ ms) (h' : m' ∈ ms) (hk : keyM m = keyM m') : m = m' := by
  obtain ⟨i, hi⟩ := List.getElem?_of_mem h
  obtain ⟨j, hj⟩ := List.getElem?_of_mem h'
  rw [List.nodup_iff_pairwise_ne, List.pairwise_iff_getElem] at hn
  have hlt : ∀ (i j : Nat) (m m' : Mt), i < j → ms[i]? = some m → ms[j]? = some m' → keyM m ≠ keyM m' := fun i j m m' hij h1 h2 => by
    obtain ⟨l1, e1⟩ := List.getElem?_eq_some_iff.1 h1
    obtain ⟨l2, e2⟩ := List.getElem?_eq_some_iff.1 h2
    have := hn i j (by simpa using l1) (by simpa using l2) hij
    simpa [e1, e2] using this
  have e : i = j := by
    rcases Nat.lt_trichotomy i j with h | h | h
    · exact absurd hk (hlt i j m m' h hi hj)
    · exact h
    · exact absurd hk.symm (hlt j i m' m h hj hi)
  subst e
  rw [hi] at hj
  cases hj
  rfl
/-- identity of interfaces, by their sorted methods -/
theorem idX_iface {D : List De} {tags : Bool} {ms0 ms0' ms ms' : List Mt} {es0 es0' : List X} (h0 : es0.length = ms0.length) (h0' : es0'.length = ms0'.length) (hE : ∀ (i : Nat) m x, ms0[i]? = some m → es0[i]? = some x → Exp D m.fn x) (hE' : ∀ (i : Nat) m x, ms0'[i]? = some m → es0'[i]? = some x → Exp D m.fn x)
    (hp : ms.Perm ms0) (hp' : ms'.Perm ms0') (hs : Srtd ms) (hs' : Srtd ms') :
    idX tags (.node 9 0 0 false (anM ms0) es0) (.node 9 0 0 false (anM ms0') es0') = true ↔ ms.length = ms'.length ∧ ∀ (i : Nat) m m', ms[i]? = some m → ms'[i]? = some m' → keyM m = keyM m' ∧ ∀ x y, Exp D m.fn x → Exp D m'.fn y → idX tags x y = true := by
  have hl0 : (anM ms0).length = es0.length := by unfold anM; rw [List.length_map, h0]
  have hn0' : ((anM ms0').map keyA).Nodup := by rw [anM_keys]; exact ((hp'.map keyM).nodup_iff).1 hs'.nodup
  have hlm : ms.length = ms0.length := hp.length_eq
  have hlm' : ms'.length = ms0'.length := hp'.length_eq
  rw [idX_node]
  simp only [beq_self_eq_true, if_true, Bool.true_and, Bool.and_eq_true, beq_iff_eq, idM_iff tags (anM ms0') es0' es0 (anM ms0) hl0]
  have hla : (anM ms0).length = ms0.length := by unfold anM; rw [List.length_map]
  have hla' : (anM ms0').length = ms0'.length := by unfold anM; rw [List.length_map]
  constructor
  · rintro ⟨h1, h2⟩
    have hl : ms.length = ms'.length := by omega
    have hsub : ∀ m ∈ ms, ∃ (j j' : Nat) (m2 : Mt) (x y : X), ms0[j]? = some m ∧ es0[j]? = some x ∧ ms0'[j']? = some m2 ∧ es0'[j']? = some y ∧ keyM m2 = keyM m ∧ idX tags x y = true := fun m hm => by
      obtain ⟨j, hj⟩ := List.getElem?_of_mem (hp.mem_iff.1 hm)
      have hjl := (List.getElem?_eq_some_iff.1 hj).1
      obtain ⟨y, h3, h4⟩ := h2 j _ es0[j] (anM_of hj) (List.getElem?_eq_getElem (by omega))
      obtain ⟨j', a, h5, h6, h7⟩ := findX_some _ _ _ _ _ h3
      obtain ⟨m2, h8, h9, _⟩ := anM_op h5
      exact ⟨j, j', m2, _, y, hj, List.getElem?_eq_getElem (by omega), h8, h6, by rw [← h9, h7], h4⟩
    have hk := srt_keys ms ms' hs hs' hl fun m hm => by
      obtain ⟨_, j', m2, _, _, _, _, h8, _, h9, _⟩ := hsub m hm
      rw [← h9]
      exact List.mem_map_of_mem (hp'.mem_iff.2 (List.mem_of_getElem? h8))
    refine ⟨hl, fun i m m' hi hi' => ⟨hk i m m' hi hi', fun x y hx hy => ?_⟩⟩
    obtain ⟨j, j', m2, x0, y0, q1, q2, q3, q4, q5, q6⟩ := hsub m (List.mem_of_getElem? hi)
    have e : m2 = m' := key_uniq hs'.nodup (hp'.mem_iff.2 (List.mem_of_getElem? q3)) (List.mem_of_getElem? hi') (q5.trans (hk i m m' hi hi'))
    subst e
    rw [Exp.det hx (hE j m x0 q1 q2), Exp.det hy (hE' j' m2 y0 q3 q4)]
    exact q6
  · rintro ⟨hl, h⟩
    refine ⟨by omega, fun i a x ha hx => ?_⟩
    obtain ⟨m, h1, h2, h3, h4⟩ := anM_op ha
    obtain ⟨k, hk⟩ := List.getElem?_of_mem (hp.mem_iff.2 (List.mem_of_getElem? h1))
    have hkl := (List.getElem?_eq_some_iff.1 hk).1
    have hk' : ms'[k]? = some ms'[k] := List.getElem?_eq_getElem (by omega)
    obtain ⟨q1, q2⟩ := h k m _ hk hk'
    obtain ⟨j', hj'⟩ := List.getElem?_of_mem (hp'.mem_iff.1 (List.mem_of_getElem? hk'))
    have hjl := (List.getElem?_eq_some_iff.1 hj').1
    have hy : es0'[j']? = some es0'[j'] := List.getElem?_eq_getElem (by omega)
    refine ⟨_, findX_at _ _ j' _ _ _ _ hn0' (anM_of hj') hy ?_, q2 x _ (hE i m x h1 hx) (hE' j' _ _ hj' hy)⟩
    show keyM ms'[k] = keyOf a.name a.pkg
    rw [← q1, h3, h4]
end Go.Proofs.YtlemfkbhcleopaaGreatDoor
namespace Go.Proofs.YtlemfkbhcleopaaGreatDoor
open Go Go.Kd
set_option maxRecDepth 100000

/-- what is there when types are compared -/
structure IC (K : Cfg) (s : Gs) (w : World) : Prop where
  ok : OkD K.D
  vd : ValidD K.D
  dc : DclI K s w K.D.length
  er : ErrI K s w
  ii : II K s w []
  prp : Prp w
  pkg : PkgOK s w
theorem PkgOK.ext {s : Gs} {w w' : World} (x : Ext w w') (h : PkgOK s w) : PkgOK s w' := fun n hn => by
  obtain ⟨c, y, h1, h2⟩ := h n hn
  exact ⟨c, y, h1, h2.ext' x⟩
theorem IC.ext {K : Cfg} {s : Gs} {w w' : World} (x : Ext w w') (h : IC K s w) : IC K s w' := ⟨h.ok, h.vd, h.dc.sta (l := 0) (.of_ext x) (by omega), h.er.sta (l := 0) (.of_ext x) (by omega), fun c u hc => by
    obtain ⟨r1, r2⟩ := h.ii c u hc
    refine ⟨r1, fun hu => ?_⟩
    obtain ⟨p1, p2, p3⟩ := r2 hu
    exact ⟨p1, p2.ext x, .inl ((p3.resolve_right fun q => (by cases q.1)).sta (l := 0) (.of_ext x) (by omega))⟩, h.prp.ext x, h.pkg.ext x⟩
theorem Blt.ic {K : Cfg} {s : Gs} {w : World} {bb : Nat} (h : Blt K s w bb) : IC K s w := ⟨⟨h.vd.sh, h.wd, by have := len_wtD K.D; have := h.wd; omega⟩, h.vd, h.dc, h.er, h.ii, h.prp, h.bi.pkg⟩
theorem rdy_of {K : Cfg} {t : Ty} (h : Good K.D t) : Rdy K K.D.length t := fun hk => by
  obtain ⟨h0, h1⟩ := h.named hk
  exact ⟨h0, by omega, by omega⟩
/-! ### Legal types -/
theorem legal_same {D : List De} {t u : Ty} (h0 : u.kind = 0) (he : u.elems = t.elems) (h : Legal D t) : Legal D u := .mk u (fun i e hi => h.el i e (by rw [← he]; exact hi)) ⟨fun k => by omega, fun k => by omega, fun k => by omega, fun k => by omega, fun k => by omega, fun k => by omega, fun k => by omega, fun k => by omega⟩
theorem legal_any (D : List De) : Legal D anyT := .mk _ (fun i e he => by simp [anyT, Ty.elems] at he) ⟨fun k => by simp [anyT, Ty.kind] at k, fun k => by simp [anyT, Ty.kind] at k, fun k => by simp [anyT, Ty.kind] at k, fun k => by simp [anyT, Ty.kind] at k, fun k => by simp [anyT, Ty.kind] at k, fun _ i e he => by simp [anyT, Ty.elems] at he, fun _ => ⟨fun i s hs => by simp [names, anyT, Ty.elems] at hs, fun i j s _ hs => by simp [names, anyT, Ty.elems] at hs⟩, fun _ => ⟨[], by
    have hif : isIf anyT := .inl rfl
    exact IM.nil hif (.inr rfl), fun i e he => by simp [anyT, Ty.elems] at he, fun i e he => by simp [anyT, Ty.elems] at he⟩⟩
theorem legal_norm {D : List De} {t : Ty} (h : Legal D t) : Legal D (norm t) := by
  rcases norm_cases t with ⟨_, h2⟩ | ⟨_, h2, h3, _⟩ | ⟨_, _, h3⟩
  · rw [h2]; exact h
  · exact legal_same h2 h3 h
  · rw [h3]; exact legal_any D
theorem legal_unalias {D : List De} (hV : ValidD D) {t : Ty} (hg : Good D t) (h : Legal D t) : Legal D (unaliasT D t) := by
  obtain ⟨i, v, hi, hs⟩ := hg.sh
  rcases unalias_cases hV.sh hi hs with ⟨_, h2⟩ | ⟨j, e, _, _, h3, _, _, h6⟩
  · rw [h2]; exact legal_norm h
  · rw [h6]; exact legal_norm (hV.lg j e h3)
theorem legal_errN {D : List De} {t : Ty} (h : Legal D t) : Legal D (errN t) := by
  unfold errN
  split
  · exact legal_errT D
  · exact h
theorem legal_under {D : List De} (hV : ValidD D) {t : Ty} (hg : Good D t) (h : Legal D t) : Legal D (underT D t) := by
  obtain ⟨i, v, hi, hs⟩ := hg.sh
  rcases under_cases hV.sh hi hs with ⟨_, _, h2⟩ | ⟨j, e, _, _, _, h3, _, h6⟩
  · rw [h2]; exact legal_errN (legal_norm h)
  · rw [h6]; exact legal_errN (legal_norm (hV.lg j e h3))
theorem mergeM_mem (c : Int) {m : Mt} : ∀ (i : Nat) (L : List (List Mt)) (out : List Mt), m ∈ mergeM c i L out → m ∈ out ∨ ∃ (j : Nat) (l : List Mt), L[j]? = some l ∧ m ∈ l
  | _, [], out, h => .inl h
  | i, l :: L, out, h => by
    unfold mergeM at h
    rcases mergeM_mem c (i + 1) L _ h with h1 | ⟨j, l', h1, h2⟩
    · split at h1
      · rcases List.mem_append.1 h1 with h1 | h1
        · exact .inl h1
        · exact .inr ⟨0, l, rfl, h1⟩
      · have key : ∀ (l out : List Mt), m ∈ l.foldl addM out → m ∈ out ∨ m ∈ l := fun l => by
          induction l with
          | nil => exact fun out h => .inl h
          | cons a r ih =>
            intro out h
            rcases ih _ h with h | h
            · rcases addM_spec out a with ⟨e, _⟩ | ⟨e, _⟩
              · rw [e] at h; exact .inl h
              · rw [e] at h
                rcases List.mem_append.1 h with h | h
                · exact .inl h
                · exact .inr (by simp at h; rw [h]; exact List.mem_cons_self ..)
            · exact .inr (List.mem_cons_of_mem _ h)
        rcases key l out h1 with h1 | h1
        · exact .inl h1
        · exact .inr ⟨0, l, rfl, h1⟩
    · exact .inr ⟨j + 1, l', by simpa using h1, h2⟩
theorem legal_IM {D : List De} (hV : ValidD D) (hD : OkD D) {t : Ty} {ms : List Mt} (h : IM D t ms) : Good D t → Legal D t → ∀ m ∈ ms, Legal D m.fn := by
  induction h with
  | no t hk => intro _ _ m hm; cases hm
  | yes t L h9 hL h1 h2 ih =>
    intro hg hl m hm
    have hu := legal_under hV hg hl
    have hgu := hg.under hD
    rcases mergeM_mem _ _ _ _ hm with hm | ⟨j, l, hj, hm⟩
    · cases hm
    · have hlt := (List.getElem?_eq_some_iff.1 hj).1
      have hel : (underT D t).elems[j]? = some (underT D t).elems[j] := List.getElem?_eq_getElem (by omega)
      by_cases hc : (j : Int) < (underT D t).count
      · have e := h1 j _ l hel hj hc
        rw [e] at hm
        simp at hm
        rw [hm]
        exact hu.el j _ hel
      · exact ih j _ l hel hj hc (hgu.el hel) (hu.el j _ hel) m hm
section
variable {K : Cfg} {s : Gs} {w : World} {p : Nat → Prop} {v : Value} {t : Ty}
/-- a literal's block -/
theorem RT.lit2 (h : RT K s w p v t) (hl : isLit t) : ∃ b, v = .iface (dynT t) (pt b) ∧ Pl w b ∧ s.g b = some t := by
  obtain ⟨l1, l2⟩ := hl
  cases h with
  | basic _ b i nb h0 h1 h2 hp h3 h4 => exact ⟨b, by unfold dynT; rw [if_pos h0, if_neg (by omega)], ⟨_, _, h3.at_⟩, h4⟩
  | error _ h0 h1 => exact absurd ⟨h0, h1⟩ l2
  | any _ b h0 h1 hp h2 h3 =>
    obtain ⟨ts, h2⟩ := h2
    exact ⟨b, by unfold dynT; rw [if_pos h0, if_pos h1], ⟨_, _, h2.at_⟩, h3⟩
  | named _ _ h0 => exact absurd h0 l1
  | ptr _ e v b h0 h1 _ hp h3 h4 => exact ⟨b, by unfold dynT; simp [h0], ⟨_, _, h3.at_⟩, h4⟩
  | slice _ e v b h0 h1 _ hp h3 h4 => exact ⟨b, by unfold dynT; simp [h0], ⟨_, _, h3.at_⟩, h4⟩
  | array _ e v b h0 h1 _ hp h3 h4 => exact ⟨b, by unfold dynT; simp [h0], ⟨_, _, h3.at_⟩, h4⟩
  | map _ k e u v b h0 h1 _ _ hp h3 h4 => exact ⟨b, by unfold dynT; simp [h0], ⟨_, _, h3.at_⟩, h4⟩
  | chan _ e v b h0 h1 _ hp h3 h4 => exact ⟨b, by unfold dynT; simp [h0], ⟨_, _, h3.at_⟩, h4⟩
  | struct _ b fa fc ta tc vb vv tg h0 _ h2 hp h3 h4 h5 h6 => exact ⟨b, by unfold dynT; simp [h0], ⟨_, _, h3.at_⟩, h6⟩
  | func _ b ps rs vb vv h0 _ h2 hp h3 h4 h5 h6 =>
    obtain ⟨rc, h3⟩ := h3
    exact ⟨b, by unfold dynT; simp [h0], ⟨_, _, h3.at_⟩, h6⟩
  | iface _ b ma mc ea ec fb me sv ev h0 _ h2 h3 _ hp h5 h6 h7 h8 =>
    obtain ⟨ts, h5⟩ := h5
    exact ⟨b, by unfold dynT; simp [h0], ⟨_, _, h5.at_⟩, h8⟩
/-- what is behind aliases -/
theorem RT.unal (ic : IC K s w) (h : RT K s w s.sl v t) (hg : Rdy K K.D.length t) : ∃ u y, RT K s w s.sl u y ∧ isAl K.D y = false ∧ unaliasT K.D t = norm y ∧ IsI u ∧ Rdy K K.D.length y := by
  cases ha : isAl K.D t with
  | false =>
    obtain ⟨T, b, hv, _⟩ := h.noAl ic.dc ic.er hg ha
    exact ⟨v, t, h, ha, unalias_end ha, ⟨T, b, hv⟩, hg⟩
  | true =>
    have hk := isAl_kind ha
    obtain ⟨h0, h1, h2⟩ := hg hk
    have hel := List.getElem?_eq_getElem h1
    have hal : (K.D[t.n.toNat]).al = true := by rw [← isAl_n hk hel]; exact ha
    obtain ⟨b, ob, T, c, v0, y, rfl, k1, k2, k3, k4, k5, k6, k7⟩ := ic.dc.al_ hel h2 hal (h.nam hk)
    exact ⟨_, y, k4, k5, by rw [unalias_step ic.ok.sh hk hel hal, ← k6, unalias_step ic.ok.sh (tN_kind _) (by rw [tN_n, Int.toNat_natCast]; exact hel) hal], ⟨T, c, rfl⟩, fun hy => by
      obtain ⟨q0, q1⟩ := k7 hy
      exact ⟨q0, by omega, by omega⟩⟩
/-- elements -/
theorem RT.kid (h : RT K s w p v t) (h2 : 2 ≤ t.kind) (h8 : t.kind ≤ 8) : ∀ (i : Nat) e, t.elems[i]? = some e → ∃ u, RT K s w p u e := by
  have one : ∀ {e : Ty} {u : Value}, t.elems = [e] → RT K s w p u e → ∀ (i : Nat) e', t.elems[i]? = some e' → ∃ u, RT K s w p u e' := fun he hu i e' hi => by
    rw [he] at hi
    match i with
    | 0 => simp at hi; subst hi; exact ⟨_, hu⟩
    | i + 1 => simp at hi
  cases h with
  | basic _ b i nb h0 => omega
  | error _ h0 => omega
  | any _ b h0 => omega
  | named _ _ h0 => omega
  | ptr _ e v b h0 h1 hr hp h3 h4 => exact one h1 hr
  | slice _ e v b h0 h1 hr hp h3 h4 => exact one h1 hr
  | array _ e v b h0 h1 hr hp h3 h4 => exact one h1 hr
  | map _ k e u v b h0 h1 hr hr' hp h3 h4 =>
    intro i e' hi
    rw [h1] at hi
    match i with
    | 0 => simp at hi; subst hi; exact ⟨_, hr⟩
    | 1 => simp at hi; subst hi; exact ⟨_, hr'⟩
    | i + 2 => simp at hi
  | chan _ e v b h0 h1 hr hp h3 h4 => exact one h1 hr
  | struct _ b fa fc ta tc vb vv tg h0 hr h2 hp h3 h4 h5 h6 => exact fun i e he => ⟨_, hr i e he⟩
  | func _ b ps rs vb vv h0 hr h2 hp h3 h4 h5 h6 => exact fun i e he => ⟨_, hr i e he⟩
  | iface _ b ma mc ea ec fb me sv ev h0 => omega
end
/-- the dynamic type that a tree stands for -/
def dynK (k : Int) : Nat := if k = 2 then 109 else if k = 3 then 158 else if k = 4 then 160 else if k = 5 then 162 else if k = 6 then 164 else if k = 7 then 170 else if k = 8 then 115 else tPI
def dynX : X → Nat
  | .leaf k n => if k = 1 ∨ n = 20 then tNP else 135
  | .node k _ _ _ _ _ => dynK k
theorem idX_dyn {tags : Bool} {x y : X} (h : idX tags x y = true) : dynX x = dynX y := by
  cases x with
  | leaf k n => rw [idX_leaf h]
  | node k n c vr an es =>
    cases y with
    | leaf => simp [idX] at h
    | node k' n' c' vr' an' es' =>
      rw [idX_node, Bool.and_eq_true, beq_iff_eq] at h
      unfold dynX
      rw [h.1]
/-- the root of a type that is no alias -/
inductive Root (D : List De) (y : Ty) : X → Prop
  | basic (n : Int) : y.kind = 0 → y.n ≠ 20 → y.n ≠ 21 → n = (if y.n = 18 then 7 else if y.n = 19 then 4 else y.n) → Root D y (.leaf 0 n)
  | error : y.kind = 0 → y.n = 20 → Root D y (.leaf 0 20)
  | named : y.kind = 1 → Root D y (.leaf 1 y.n)
  | plain (es : List X) : 2 ≤ y.kind → y.kind ≤ 8 → es.length = y.elems.length → (∀ (i : Nat) e x, y.elems[i]? = some e → es[i]? = some x → Exp D e x) → Root D y (.node y.kind (nN y) (cN y) (vN y) (anN y) es)
  | iface (ms : List Mt) (es : List X) : isIf y → IM D y ms → es.length = ms.length → (∀ (i : Nat) m x, ms[i]? = some m → es[i]? = some x → Exp D m.fn x) → Root D y (.node 9 0 0 false (anM ms) es)
theorem IM.under {D : List De} {t u : Ty} (h : underT D t = underT D u) {ms : List Mt} (hm : IM D t ms) : IM D u ms := by
  cases hm with
  | no _ hk => exact .no u (by rw [← h]; exact hk)
  | yes _ L h9 hL h1 h2 => rw [h] at h9 hL h1 h2 ⊢; exact .yes u L h9 hL h1 h2
theorem exp_root {D : List De} {t y : Ty} {x : X} (hu : unaliasT D t = norm y) (h : Exp D t x) : Root D y x := by
  cases h with
  | leaf _ hk =>
    rw [hu] at hk ⊢
    rcases norm_cases y with ⟨h1, h2⟩ | ⟨h1, h2, h3, h4, h5⟩ | ⟨h1, h2, h3⟩
    · rw [h2] at hk ⊢
      have hk1 := hk.resolve_left h1
      rw [hk1]
      exact .named hk1
    · rw [h2, h4]
      by_cases h20 : y.n = 20
      · rw [h20]; exact .error h1 h20
      · exact .basic _ h1 h20 h5 rfl
    · rw [h3] at hk
      rcases hk with hk | hk <;> cases hk
  | plain _ es h2 h8 hl he =>
    rw [hu] at h2 h8 hl he ⊢
    rcases norm_cases y with ⟨h1, h3⟩ | ⟨h1, h3, _⟩ | ⟨h1, h2', h3⟩
    · rw [h3] at h2 h8 hl he ⊢; exact .plain es h2 h8 hl he
    · omega
    · rw [h3] at h8; exact absurd h8 (by decide)
  | iface _ ms es h9 hi hl he =>
    rw [hu] at h9 hi
    have hif := (isIf_norm y).2 h9
    exact .iface ms es hif (hi.under (by
      rw [hif.under]
      have h1 : (norm y).kind ≠ 1 := by omega
      have h2 : ¬ ((norm y).kind = 0 ∧ (norm y).n = 20) := by omega
      rw [under_lit h1 h2, norm_named (by omega)])) hl he
theorem Root.det {D : List De} {y : Ty} {x z : X} (h : Root D y x) (k : Root D y z) : x = z := by
  cases h with
  | basic n h0 h1 h2 h3 =>
    cases k with
    | basic n' _ _ _ k3 => rw [h3, k3]
    | error _ k1 => exact absurd k1 h1
    | named k0 => omega
    | plain es k2 => omega
    | iface ms es k1 =>
      rcases k1 with k | ⟨_, k⟩
      · omega
      · exact absurd k h2
  | error h0 h1 =>
    cases k with
    | basic n' _ k1 => exact absurd h1 k1
    | error => rfl
    | named k0 => omega
    | plain es k2 => omega
    | iface ms es k1 =>
      rcases k1 with k | ⟨_, k⟩
      · omega
      · omega
  | named h0 =>
    cases k with
    | basic n' k0 => omega
    | error k0 => omega
    | named => rfl
    | plain es k2 => omega
    | iface ms es k1 =>
      rcases k1 with k | ⟨k, _⟩ <;> omega
  | plain es h2 h8 hl he =>
    cases k with
    | basic n' k0 => omega
    | error k0 => omega
    | named k0 => omega
    | plain es' _ _ kl ke =>
      have : es = es' := lists_eq es es' (by omega) fun i a b ha hb => by
        have hlt := (List.getElem?_eq_some_iff.1 ha).1
        have hel : y.elems[i]? = some y.elems[i] := List.getElem?_eq_getElem (by omega)
        exact Exp.det (he i _ a hel ha) (ke i _ b hel hb)
      rw [this]
    | iface ms es k1 =>
      rcases k1 with k | ⟨k, _⟩ <;> omega
  | iface ms es hi hm hl he =>
    cases k with
    | basic n' k0 _ k1 =>
      rcases hi with k | ⟨_, k⟩
      · omega
      · exact absurd k k1
    | error k0 k1 =>
      rcases hi with k | ⟨_, k⟩ <;> omega
    | named k0 =>
      rcases hi with k | ⟨k, _⟩ <;> omega
    | plain es' k2 k8 =>
      rcases hi with k | ⟨k, _⟩ <;> omega
    | iface ms' es' _ km kl ke =>
      obtain rfl := IM.det hm km
      have : es = es' := lists_eq es es' (by omega) fun i a b ha hb => by
        have hlt := (List.getElem?_eq_some_iff.1 ha).1
        have hel : ms[i]? = some ms[i] := List.getElem?_eq_getElem (by omega)
        exact Exp.det (he i _ a hel ha) (ke i _ b hel hb)
      rw [this]
end Go.Proofs.YtlemfkbhcleopaaGreatDoor
namespace Go.Proofs.YtlemfkbhcleopaaGreatDoor
open Go Go.Kd
set_option maxRecDepth 100000

theorem isIf.under_norm {D : List De} {y : Ty} (hif : isIf y) : underT D y = underT D (norm y) := by
  have h9 := hif.norm9
  rw [hif.under]
  have h1 : (norm y).kind ≠ 1 := by omega
  have h2 : ¬ ((norm y).kind = 0 ∧ (norm y).n = 20) := by omega
  rw [under_lit h1 h2, norm_named (t := norm y) (by omega)]
/-- what is known of the block of a type that is no alias -/
def gk (y : Ty) : Ty := if y.kind = 1 then tN y.n.toNat else if y.kind = 0 ∧ y.n = 20 then errB else y
section
variable {K : Cfg} {s : Gs} {w : World}
theorem RT.rootv (ic : IC K s w) {v : Value} {y : Ty} {x : X} (h : RT K s w s.sl v y) (ha : isAl K.D y = false) (hr : Rdy K K.D.length y) (hx : Root K.D y x) : ∃ b, v = .iface (dynX x) (pt b) ∧ Pl w b ∧ s.g b = some (gk y) := by
  have lit : isLit y → dynX x = dynT y → ∃ b, v = .iface (dynX x) (pt b) ∧ Pl w b ∧ s.g b = some (gk y) := fun hl hd => by
    obtain ⟨b, h1, h2, h3⟩ := h.lit2 hl
    exact ⟨b, by rw [hd]; exact h1, h2, by unfold gk; rw [if_neg hl.1, if_neg hl.2]; exact h3⟩
  cases hx with
  | basic n h0 h1 h2 h3 =>
    refine lit ⟨by omega, fun q => h1 q.2⟩ ?_
    have h20 : n ≠ 20 := by
      rw [h3]
      split
      · omega
      split <;> omega
    show (if (0 : Int) = 1 ∨ n = 20 then tNP else _) = dynT y
    unfold dynT
    rw [if_pos h0, if_neg h2, if_neg (by omega)]
  | error h0 h1 =>
    obtain ⟨b, ob, u, ms, nm, q1, q2, q3, q4, q5⟩ := ic.er
    have hv := h.err h0 h1
    rw [q1] at hv
    refine ⟨b, by rw [hv]; rfl, ⟨_, _, q4.at_⟩, ?_⟩
    unfold gk
    rw [if_neg (by omega), if_pos ⟨h0, h1⟩]; exact q2
  | named hk =>
    obtain ⟨h0, h1, h2⟩ := hr hk
    have hel := List.getElem?_eq_getElem h1
    obtain ⟨b, ob, T, ub, ms, z, rfl, k1, k2, k3, _⟩ := ic.dc.def_ hel h2 (by rw [← isAl_n hk hel]; exact ha) (h.nam hk)
    exact ⟨b, rfl, ⟨_, _, k3.at_⟩, by unfold gk; rw [if_pos hk]; exact k1⟩
  | plain es h2 h8 =>
    refine lit ⟨by omega, fun q => by omega⟩ ?_
    unfold dynX dynK dynT
    rw [if_neg (show ¬ y.kind = 0 by omega)]
  | iface ms es hi =>
    refine lit hi.lit ?_
    rw [hi.dyn]; rfl
theorem gk_root {D : List De} {y y' : Ty} {x x' : X} (hx : Root D y x) (hx' : Root D y' x') (h : gk y = gk y') (h0 : y.kind = 1 → 0 ≤ y.n) (h0' : y'.kind = 1 → 0 ≤ y'.n) : x = x' := by
  have key : ∀ {y : Ty} {x : X}, Root D y x → (y.kind = 1 → 0 ≤ y.n) → Root D (gk y) x := fun {y x} hx h0 => by
    unfold gk
    by_cases h1 : y.kind = 1
    · rw [if_pos h1]
      cases hx with
      | basic _ k => omega
      | error k => omega
      | named =>
        have : Root D (tN y.n.toNat) (.leaf 1 (tN y.n.toNat).n) := .named (tN_kind _)
        rw [tN_n, Int.toNat_of_nonneg (h0 h1)] at this
        exact this
      | plain _ k => omega
      | iface _ _ k => rcases k with k | ⟨k, _⟩ <;> omega
    · rw [if_neg h1]
      by_cases h2 : y.kind = 0 ∧ y.n = 20
      · rw [if_pos h2]
        cases hx with
        | basic _ _ k => exact absurd h2.2 k
        | error => exact .error rfl rfl
        | named k => omega
        | plain _ k => omega
        | iface _ _ k => rcases k with k | ⟨_, k⟩ <;> omega
      · rw [if_neg h2]; exact hx
  have a := key hx h0
  have b := key hx' h0'
  rw [h] at a
  exact a.det b
/-- the type set of an interface -/
theorem IC.ts (ic : IC K s w) {b : Nat} {y : Ty} (hg : s.g b = some y) (hi : isIf y) : ∃ tb ms fb, TSo K s w all' b tb y ms fb := by
  obtain ⟨_, r2⟩ := ic.ii b y hg
  obtain ⟨_, _, r3⟩ := r2 hi
  exact r3.resolve_right fun q => (by cases q.1)
/-- methods of interfaces: their trees -/
theorem iface_trees {D : List De} {ms : List Mt} {es : List X} (hl : es.length = ms.length) (he : ∀ (i : Nat) m x, ms[i]? = some m → es[i]? = some x → Exp D m.fn x) {m : Mt} (hm : m ∈ ms) : ∃ (i : Nat) (x : X), es[i]? = some x ∧ Exp D m.fn x := by
  obtain ⟨i, hi⟩ := List.getElem?_of_mem hm
  have hlt := (List.getElem?_eq_some_iff.1 hi).1
  have hx : es[i]? = some es[i] := List.getElem?_eq_getElem (by omega)
  exact ⟨i, _, hx, he i m _ hi hx⟩
theorem RT.wfx (ic : IC K s w) : ∀ (x : X) (v : Value) (t : Ty), RT K s w s.sl v t → Rdy K K.D.length t → Good K.D (unaliasT K.D t) → Exp K.D t x → WfX x := by
  refine X.ind (fun k n _ _ _ _ _ _ => .leaf k n) fun k n c vr an es ih v t h hd hg hx => ?_
  obtain ⟨u, y, h1, h2, h3, h4, h5⟩ := h.unal ic hd
  have hgy : Good K.D (norm y) := by rw [← h3]; exact hg
  have hr := exp_root h3 hx
  generalize hz : X.node k n c vr an es = z at hr
  cases hr with
  | basic => cases hz
  | error => cases hz
  | named => cases hz
  | plain es' k2 k8 kl ke =>
    cases hz
    rw [norm_named (by omega)] at hgy
    refine .node _ _ _ _ _ _ (fun h => by omega) fun e he => ?_
    obtain ⟨i, hi⟩ := List.getElem?_of_mem he
    have hlt := (List.getElem?_eq_some_iff.1 hi).1
    have hel : y.elems[i]? = some y.elems[i] := List.getElem?_eq_getElem (by omega)
    obtain ⟨u', hu'⟩ := h1.kid k2 k8 i _ hel
    exact ih e he u' _ hu' (rdy_of (hgy.el hel)) ((hgy.el hel).unalias ic.ok) (ke i _ e hel hi)
  | iface ms es' hif hm kl ke =>
    cases hz
    obtain ⟨b, _, _, hgb⟩ := h1.rootv ic h2 h5 (.iface ms es hif hm kl ke)
    rw [show gk y = y from by unfold gk; rw [if_neg hif.lit.1, if_neg hif.lit.2]] at hgb
    obtain ⟨tb, ms', fb, ht⟩ := ic.ts hgb hif
    obtain ⟨ms0, hm0, hp⟩ := ht.im
    obtain rfl := IM.det hm hm0
    have hmN : IM K.D (norm y) ms := hm.under hif.under_norm
    refine .node _ _ _ _ _ _ (fun _ => ⟨by unfold anM; rw [List.length_map, kl], by rw [anM_keys]; exact ((hp.map keyM).nodup_iff).1 ht.srt.nodup⟩) fun e he => ?_
    obtain ⟨i, hi⟩ := List.getElem?_of_mem he
    have hlt := (List.getElem?_eq_some_iff.1 hi).1
    have hel : ms[i]? = some ms[i] := List.getElem?_eq_getElem (by omega)
    obtain ⟨j, hj⟩ := List.getElem?_of_mem (hp.mem_iff.2 (List.mem_of_getElem? hel))
    obtain ⟨pk, sv, _, _, _, hsv, _⟩ := ht.mth j _ hj
    have hgm := IM_good ic.ok hmN hgy _ (List.mem_of_getElem? hel)
    exact ih e he sv _ hsv (rdy_of hgm) (hgm.unalias ic.ok) (ke i _ e hel hi)
end
theorem c_typeSet_done (b tb : Nat) (w : World) (h : IfT w b (pt tb)) : Calls Tryz.prog 85 #[pt b] w (Ret fun r w' => r = pt tb ∧ w = w') := by
  have h2 := h
  obtain ⟨ma, mn, mc', ea, en, ec, h⟩ := h
  refine W.enter (args := [pt b]) Tryz.func85 rfl Tryz.ntmps85 rfl rfl ?_
  refine zst ?_
  refine WU.stp rfl rfl rfl (stp_call rfl (c_cits_done w 0 b tb h2)) ?_
  rintro _ _ ⟨rfl, rfl⟩
  refine zst ?_
  exact fin1 (.inl rfl) rfl rfl ⟨rfl, rfl⟩
end Go.Proofs.YtlemfkbhcleopaaGreatDoor
namespace Go.Proofs.YtlemfkbhcleopaaGreatDoor
open Go Go.Kd
set_option maxRecDepth 100000

abbrev tCM : Nat := 118
abbrev cmc (ign : Bool) : Array Value := #[.bool ign, .bool false]
/-- the stack of pairs of interfaces: all of them have deeper trees -/
inductive Stk (K : Cfg) (s : Gs) (w : World) : Nat → Nat → Option Addr → Prop
  | nil (dx dy : Nat) : Stk K s w dx dy none
  | cons (dx dy p xb yb : Nat) (a : Option Addr) (ux uy : Ty) (x y : X) : Has w p (.cells (prc xb yb a) tPR) → Pl w xb → Pl w yb → s.g xb = some ux → s.g yb = some uy → Root K.D ux x → Root K.D uy y → dx < dX x → dy < dX y → Stk K s w dx dy a → Stk K s w dx dy (some ⟨p, 0, none⟩)
theorem Stk.ext {K : Cfg} {s : Gs} {w w' : World} (e : Ext w w') {dx dy : Nat} {a : Option Addr} (h : Stk K s w dx dy a) : Stk K s w' dx dy a := by
  induction h with
  | nil => exact .nil dx dy
  | cons p xb yb a ux uy x y h1 h2 h3 h4 h5 h6 h7 h8 h9 _ ih => exact .cons dx dy p xb yb a ux uy x y (h1.ext' e) (h2.ext' e) (h3.ext' e) h4 h5 h6 h7 h8 h9 ih
theorem Stk.le {K : Cfg} {s : Gs} {w : World} {dx dy dx' dy' : Nat} (hx : dx' ≤ dx) (hy : dy' ≤ dy) {a : Option Addr} (h : Stk K s w dx dy a) : Stk K s w dx' dy' a := by
  induction h with
  | nil => exact .nil dx' dy'
  | cons p xb yb a ux uy x y h1 h2 h3 h4 h5 h6 h7 h8 h9 _ ih => exact .cons dx' dy' p xb yb a ux uy x y h1 h2 h3 h4 h5 h6 h7 (by omega) (by omega) ih
/-- a value that stands for a type with tree x -/
structure TX (K : Cfg) (s : Gs) (w : World) (v : Value) (t : Ty) (x : X) : Prop where
  rt : RT K s w s.sl v t
  rd : Rdy K K.D.length t
  gd : Good K.D (unaliasT K.D t)
  lg : Legal K.D (unaliasT K.D t)
  ex : Exp K.D t x
theorem TX.of {K : Cfg} {s : Gs} {w : World} (ic : IC K s w) {v : Value} {t : Ty} {x : X} (rt : RT K s w s.sl v t) (gd : Good K.D t) (lg : Legal K.D t) (ex : Exp K.D t x) : TX K s w v t x := ⟨rt, rdy_of gd, gd.unalias ic.ok, legal_unalias ic.vd gd lg, ex⟩
theorem TX.ext {K : Cfg} {s : Gs} {w w' : World} (e : Ext w w') {v : Value} {t : Ty} {x : X} (h : TX K s w v t x) : TX K s w' v t x := ⟨h.rt.ext e, h.rd, h.gd, h.lg, h.ex⟩
/-- .. no alias -/
structure RX (K : Cfg) (s : Gs) (w : World) (v : Value) (t : Ty) (x : X) : Prop where
  rt : RT K s w s.sl v t
  al : isAl K.D t = false
  rd : Rdy K K.D.length t
  gd : Good K.D (norm t)
  lg : Legal K.D (norm t)
  ro : Root K.D t x
theorem RX.ext {K : Cfg} {s : Gs} {w w' : World} (e : Ext w w') {v : Value} {t : Ty} {x : X} (h : RX K s w v t x) : RX K s w' v t x := ⟨h.rt.ext e, h.al, h.rd, h.gd, h.lg, h.ro⟩
/-- what identical answers -/
def IdG (K : Cfg) (s : Gs) (cb : Nat) (ign : Bool) (x : X) : Prop := ∀ (w : World) (vx vy : Value) (tx ty : Ty) (y : X) (a : Option Addr), IC K s w → Has w cb (.cells (cmc ign) tCM) → TX K s w vx tx x → TX K s w vy ty y → Stk K s w (dX x) (dX y) a →
  Calls Tryz.prog 80 #[pt cb, vx, vy, .pointer a] w (Ret fun r w' => r = .bool (idX (!ign) x y) ∧ Ext w w')
/-- .. behind the first steps -/
abbrev idFin (w : World) (r : Bool) : Post := fin Tryz.prog Tryz.f80 (Ret fun v w' => v = .bool r ∧ Ext w w')
def IdT (w : World) (cb : Nat) (vx vy : Value) (a : Option Addr) (r : Bool) : Prop := ∃ c, dropA 7 (bodyA Tryz.f80) = some c ∧ W Tryz.prog 581 c (idFin w r) [] [(0, pt cb), (1, vx), (2, vy), (3, .pointer a)] w
theorem dyn_ptr (x : X) : PtrT Tryz.prog (dynX x) ∧ CmpT Tryz.prog (dynX x) := by
  unfold dynX
  split
  · split <;> exact ⟨inferInstance, inferInstance⟩
  · unfold dynK
    repeat' split
    all_goals exact ⟨inferInstance, inferInstance⟩
set_option maxHeartbeats 1000000 in
theorem id_main {K : Cfg} {s : Gs} {cb : Nat} {ign : Bool} {x : X} (tail : ∀ (w : World) (vx vy : Value) (t1 t2 : Ty) (y : X) (a : Option Addr), IC K s w → Has w cb (.cells (cmc ign) tCM) → RX K s w vx t1 x → RX K s w vy t2 y → Stk K s w (dX x) (dX y) a → IdT w cb vx vy a (idX (!ign) x y)) : IdG K s cb ign x := by
  intro w vx vy tx ty y a ic hcb hx hy hst
  refine W.enter (args := [pt cb, vx, vy, .pointer a]) Tryz.func80 rfl Tryz.ntmps80 rfl rfl ?_
  refine zst ?_
  refine WU.stp rfl rfl rfl (stp_call rfl (c_gUnalias ic.ok.sh ic.dc ic.er hx.rt hx.rd)) ?_
  rintro _ _ ⟨rfl, t1, p1, p2, p3, ⟨T1, b1, rfl⟩, p5⟩
  refine zst ?_
  refine WU.stp rfl rfl rfl (stp_call rfl (c_gUnalias ic.ok.sh ic.dc ic.er hy.rt hy.rd)) ?_
  rintro _ _ ⟨rfl, t2, q1, q2, q3, ⟨T2, b2, rfl⟩, q5⟩
  have r1 : RX K s w (.iface T1 (pt b1)) t1 x := ⟨p1.mono fun d _ hd => hd.elim id id, p2, p5, by rw [← p3]; exact hx.gd, by rw [← p3]; exact hx.lg, exp_root p3 hx.ex⟩
  have r2 : RX K s w (.iface T2 (pt b2)) t2 y := ⟨q1.mono fun d _ hd => hd.elim id id, q2, q5, by rw [← q3]; exact hy.gd, by rw [← q3]; exact hy.lg, exp_root q3 hy.ex⟩
  obtain ⟨b1', e1, l1, g1⟩ := r1.rt.rootv ic p2 p5 r1.ro
  obtain ⟨b2', e2, l2, g2⟩ := r2.rt.rootv ic q2 q5 r2.ro
  cases e1
  cases e2
  refine zst ?_
  refine WU.yld rfl rfl rfl (yld_eql_ifo (fun _ => (dyn_ptr x).1) (fun _ => (dyn_ptr x).2) rfl rfl (fun c hc => by cases hc; exact l1) (fun c hc => by cases hc; exact l2)) ?_
  by_cases heq : dynX x = dynX y ∧ (some ⟨b1, 0, none⟩ : Option Addr) = some ⟨b2, 0, none⟩
  · rw [decide_eq_true heq]
    refine zst ?_
    have hb : b1 = b2 := congrArg (fun o : Option Addr => (o.getD default).block) heq.2
    subst hb
    rw [g1] at g2
    have hxy := gk_root r1.ro r2.ro (Option.some.inj g2) (fun h => (p5 h).1) (fun h => (q5 h).1)
    subst hxy
    exact fin1 (.inl rfl) rfl rfl ⟨by rw [idX_refl _ _ (hx.rt.wfx ic x _ _ hx.rd hx.gd hx.ex)], Ext.rfl' _⟩
  · rw [decide_eq_false heq]
    (repeat ((fail_if_success guard_target =~ gW (.seq (.region 7 _ _) _)); (fail_if_success guard_target =~ gW (.seq (.seq (.region 7 _ _) _) _)); refine zs1 ?_))
    exact W.useA (e' := [(0, pt cb), (1, .iface (dynX x) (pt b1)), (2, .iface (dynX y) (pt b2)), (3, .pointer a)]) (tail w _ _ t1 t2 y a ic hcb r1 r2 hst) rfl ⟨rfl, rfl, rfl, rfl, trivial⟩
end Go.Proofs.YtlemfkbhcleopaaGreatDoor
namespace Go.Proofs.YtlemfkbhcleopaaGreatDoor
open Go Go.Kd
set_option maxRecDepth 100000

set_option maxHeartbeats 4000000 in
/-- other dynamic types -/
theorem id_ne {w : World} {cb b1 b2 T1 T2 : Nat} {a : Option Addr} (h1 : litT T1 ∨ T1 = tNP) (hne : Nat.beq T2 T1 = false) (hal : Nat.beq T2 tAL = false) : IdT w cb (.iface T1 (pt b1)) (.iface T2 (pt b2)) a false := by
  refine ⟨_, rfl, ?_⟩
  rcases h1 with h1 | rfl
  · rcases h1 with rfl | rfl | rfl | rfl | rfl | rfl | rfl | rfl | rfl
    all_goals
      refine zst ?_
      first
        | exact fin1 (.inl rfl) rfl rfl ⟨rfl, Ext.rfl' _⟩
        | exact fin1 (.inr rfl) rfl rfl ⟨rfl, Ext.rfl' _⟩
  · refine zst ?_
    refine WU.stp rfl rfl rfl (stp_call rfl (c_asNamed_no T2 (pt b2) w hal hne)) ?_
    rintro _ _ ⟨rfl, rfl⟩
    refine zst ?_
    exact fin1 (.inl rfl) rfl rfl ⟨rfl, Ext.rfl' _⟩

/-! ### The parts of a type with one element -/
section
variable {K : Cfg} {s : Gs} {w : World} {v : Value} {t : Ty} {x : X}
theorem Root.plain_of {D : List De} {t : Ty} {x : X} (h : Root D t x) (h2 : 2 ≤ t.kind) (h8 : t.kind ≤ 8) : ∃ es, x = .node t.kind (nN t) (cN t) (vN t) (anN t) es ∧ es.length = t.elems.length ∧ ∀ (i : Nat) e z, t.elems[i]? = some e → es[i]? = some z → Exp D e z := by
  cases h with
  | basic _ k => omega
  | error k => omega
  | named k => omega
  | plain es _ _ hl he => exact ⟨es, rfl, hl, he⟩
  | iface _ _ k => rcases k with k | ⟨k, _⟩ <;> omega
theorem RX.good (h : RX K s w v t x) (h2 : 2 ≤ t.kind) : Good K.D t := by
  have := h.gd
  rwa [norm_named (by omega)] at this
theorem RX.legal (h : RX K s w v t x) (h2 : 2 ≤ t.kind) : Legal K.D t := by
  have := h.lg
  rwa [norm_named (by omega)] at this
theorem RX.one (h : RX K s w v t x) (ic : IC K s w) (h2 : 2 ≤ t.kind) (h8 : t.kind ≤ 8) {e : Ty} {u : Value} (he : t.elems = [e]) (hu : RT K s w s.sl u e) : ∃ z, TX K s w u e z ∧ x = .node t.kind (nN t) (cN t) (vN t) (anN t) [z] ∧ dX z < dX x := by
  obtain ⟨es, rfl, hl, hx⟩ := h.ro.plain_of h2 h8
  rw [he] at hl
  obtain ⟨z, rfl⟩ : ∃ z, es = [z] := List.length_eq_one_iff.1 (by simpa using hl)
  have h0 : t.elems[0]? = some e := by rw [he]; rfl
  exact ⟨z, .of ic hu ((h.good h2).el h0) ((h.legal h2).el 0 e h0) (hx 0 e z h0 rfl), rfl, dX_at (i := 0) rfl⟩
end
theorem idX_one {tags : Bool} {t t' : Ty} {z z' : X} (hk : t.kind = t'.kind) (h7 : t.kind ≠ 7) (h9 : t.kind ≠ 9) (h8 : t.kind ≠ 8) : idX tags (.node t.kind (nN t) (cN t) (vN t) (anN t) [z]) (.node t'.kind (nN t') (cN t') (vN t') (anN t') [z']) = (nN t == nN t' && idX tags z z') := by
  rw [idX_node]
  unfold cN vN anN
  rw [if_neg h9, if_neg h8, if_neg h7, if_neg (by omega), if_neg (by omega), if_neg (by omega), if_neg (by omega), hk]
  simp [sameAn, idL]
set_option maxHeartbeats 1000000 in
theorem id_ptr {K : Cfg} {s : Gs} {w : World} {cb : Nat} {ign : Bool} {x y : X} {vx vy : Value} {t1 t2 : Ty} {a : Option Addr} (ih : ∀ z, dX z < dX x → IdG K s cb ign z) (ic : IC K s w) (hcb : Has w cb (.cells (cmc ign) tCM)) (hx : RX K s w vx t1 x) (hy : RX K s w vy t2 y) (hst : Stk K s w (dX x) (dX y) a) (k1 : t1.kind = 2) (k2 : t2.kind = 2) : IdT w cb vx vy a (idX (!ign) x y) := by
  obtain ⟨rt1, rt2⟩ := (⟨hx.rt, hy.rt⟩ : _ ∧ _)
  cases rt1 with
  | ptr _ e1 u1 b1 _ h1 r1 _ m1 g1 =>
    cases rt2 with
    | ptr _ e2 u2 b2 _ h2 r2 _ m2 g2 =>
      obtain ⟨z1, tx1, ex1, d1⟩ := hx.one ic (by omega) (by omega) h1 r1
      obtain ⟨z2, tx2, ex2, d2⟩ := hy.one ic (by omega) (by omega) h2 r2
      refine ⟨_, rfl, ?_⟩
      refine zst ?_
      refine W.regD [(0, .q), (1, .q), (2, .q), (3, .q), (4, .q), (5, .q), (6, .q), (7, .q), (8, .q), (9, .q), (10, .l), (11, .q)] (by kernel_rfl) (by kernel_rfl) rfl ?_
      intro w1 x1 _
      have m1' := m1.ext' x1
      have m2' := m2.ext' x1
      refine zsd ?_
      refine WD.stp rfl rfl rfl rfl (stp_call rfl (ih z1 d1 w1 u1 u2 e1 e2 z2 a (ic.ext x1) (hcb.ext' x1) (tx1.ext x1) (tx2.ext x1) ((hst.ext x1).le (by omega) (by omega)))) ?_
      rintro _ w2 ⟨rfl, x2⟩
      refine ⟨x2, ?_⟩
      refine zsd ?_
      refine zst ?_
      refine fin1 (.inl rfl) rfl rfl ⟨?_, x1.trans x2⟩
      rw [ex1, ex2, idX_one (by omega) (by omega) (by omega) (by omega)]
      unfold nN
      simp [k1, k2]
    | _ => omega
  | _ => omega

set_option maxHeartbeats 1000000 in
theorem id_slice {K : Cfg} {s : Gs} {w : World} {cb : Nat} {ign : Bool} {x y : X} {vx vy : Value} {t1 t2 : Ty} {a : Option Addr} (ih : ∀ z, dX z < dX x → IdG K s cb ign z) (ic : IC K s w) (hcb : Has w cb (.cells (cmc ign) tCM)) (hx : RX K s w vx t1 x) (hy : RX K s w vy t2 y) (hst : Stk K s w (dX x) (dX y) a) (k1 : t1.kind = 3) (k2 : t2.kind = 3) : IdT w cb vx vy a (idX (!ign) x y) := by
  obtain ⟨rt1, rt2⟩ := (⟨hx.rt, hy.rt⟩ : _ ∧ _)
  cases rt1 with
  | slice _ e1 u1 b1 _ h1 r1 _ m1 g1 =>
    cases rt2 with
    | slice _ e2 u2 b2 _ h2 r2 _ m2 g2 =>
      obtain ⟨z1, tx1, ex1, d1⟩ := hx.one ic (by omega) (by omega) h1 r1
      obtain ⟨z2, tx2, ex2, d2⟩ := hy.one ic (by omega) (by omega) h2 r2
      refine ⟨_, rfl, ?_⟩
      refine zst ?_
      refine W.regD [(0, .q), (1, .q), (2, .q), (3, .q), (4, .q), (5, .q), (6, .q), (7, .q), (8, .q), (9, .q), (10, .l), (11, .q)] (by kernel_rfl) (by kernel_rfl) rfl ?_
      intro w1 x1 _
      have m1' := m1.ext' x1
      have m2' := m2.ext' x1
      refine zsd ?_
      refine WD.stp rfl rfl rfl rfl (stp_call rfl (ih z1 d1 w1 u1 u2 e1 e2 z2 a (ic.ext x1) (hcb.ext' x1) (tx1.ext x1) (tx2.ext x1) ((hst.ext x1).le (by omega) (by omega)))) ?_
      rintro _ w2 ⟨rfl, x2⟩
      refine ⟨x2, ?_⟩
      refine zsd ?_
      refine zst ?_
      refine fin1 (.inl rfl) rfl rfl ⟨?_, x1.trans x2⟩
      rw [ex1, ex2, idX_one (by omega) (by omega) (by omega) (by omega)]
      unfold nN
      simp [k1, k2]
    | _ => omega
  | _ => omega

set_option maxHeartbeats 1000000 in
theorem id_chan {K : Cfg} {s : Gs} {w : World} {cb : Nat} {ign : Bool} {x y : X} {vx vy : Value} {t1 t2 : Ty} {a : Option Addr} (ih : ∀ z, dX z < dX x → IdG K s cb ign z) (ic : IC K s w) (hcb : Has w cb (.cells (cmc ign) tCM)) (hx : RX K s w vx t1 x) (hy : RX K s w vy t2 y) (hst : Stk K s w (dX x) (dX y) a) (k1 : t1.kind = 6) (k2 : t2.kind = 6) : IdT w cb vx vy a (idX (!ign) x y) := by
  obtain ⟨rt1, rt2⟩ := (⟨hx.rt, hy.rt⟩ : _ ∧ _)
  cases rt1 with
  | chan _ e1 u1 b1 _ h1 r1 _ m1 g1 =>
    cases rt2 with
    | chan _ e2 u2 b2 _ h2 r2 _ m2 g2 =>
      obtain ⟨z1, tx1, ex1, d1⟩ := hx.one ic (by omega) (by omega) h1 r1
      obtain ⟨z2, tx2, ex2, d2⟩ := hy.one ic (by omega) (by omega) h2 r2
      have hn : idX (!ign) x y = (t1.n == t2.n && idX (!ign) z1 z2) := by
        rw [ex1, ex2, idX_one (by omega) (by omega) (by omega) (by omega)]
        unfold nN
        simp [k1, k2]
      rw [hn]
      refine ⟨_, rfl, ?_⟩
      refine zst ?_
      refine W.regD [(0, .q), (1, .q), (2, .q), (3, .q), (4, .q), (5, .q), (6, .q), (7, .q), (8, .q), (9, .q), (10, .q), (11, .q), (12, .q), (13, .q), (14, .q), (15, .q), (16, .q), (17, .q), (18, .q), (19, .q), (20, .l), (21, .q), (22, .q)] (by kernel_rfl) (by kernel_rfl) rfl ?_
      intro w1 x1 _
      have m1' := m1.ext' x1
      have m2' := m2.ext' x1
      refine zsd ?_
      cases hq : t1.n == t2.n
      · refine zsd ?_
        refine zst ?_
        exact fin1 (.inl rfl) rfl rfl ⟨rfl, x1⟩
      · refine zsd ?_
        refine WD.stp rfl rfl rfl rfl (stp_call rfl (ih z1 d1 w1 u1 u2 e1 e2 z2 a (ic.ext x1) (hcb.ext' x1) (tx1.ext x1) (tx2.ext x1) ((hst.ext x1).le (by omega) (by omega)))) ?_
        rintro _ w2 ⟨rfl, x2⟩
        refine ⟨x2, ?_⟩
        refine zsd ?_
        refine zst ?_
        exact fin1 (.inl rfl) rfl rfl ⟨rfl, x1.trans x2⟩
    | _ => omega
  | _ => omega

set_option maxHeartbeats 1000000 in
theorem id_array {K : Cfg} {s : Gs} {w : World} {cb : Nat} {ign : Bool} {x y : X} {vx vy : Value} {t1 t2 : Ty} {a : Option Addr} (ih : ∀ z, dX z < dX x → IdG K s cb ign z) (ic : IC K s w) (hcb : Has w cb (.cells (cmc ign) tCM)) (hx : RX K s w vx t1 x) (hy : RX K s w vy t2 y) (hst : Stk K s w (dX x) (dX y) a) (k1 : t1.kind = 4) (k2 : t2.kind = 4) : IdT w cb vx vy a (idX (!ign) x y) := by
  obtain ⟨rt1, rt2⟩ := (⟨hx.rt, hy.rt⟩ : _ ∧ _)
  cases rt1 with
  | array _ e1 u1 b1 _ h1 r1 _ m1 g1 =>
    cases rt2 with
    | array _ e2 u2 b2 _ h2 r2 _ m2 g2 =>
      obtain ⟨z1, tx1, ex1, d1⟩ := hx.one ic (by omega) (by omega) h1 r1
      obtain ⟨z2, tx2, ex2, d2⟩ := hy.one ic (by omega) (by omega) h2 r2
      have hn : idX (!ign) x y = (t1.n == t2.n && idX (!ign) z1 z2) := by
        rw [ex1, ex2, idX_one (by omega) (by omega) (by omega) (by omega)]
        unfold nN
        simp [k1, k2]
      have p1 : 0 ≤ t1.n := by
        obtain ⟨i, v, _, q⟩ := (hx.good (by omega)).sh
        exact q.shape.n0 (by rw [k1]; simp [limitN])
      have p2 : 0 ≤ t2.n := by
        obtain ⟨i, v, _, q⟩ := (hy.good (by omega)).sh
        exact q.shape.n0 (by rw [k2]; simp [limitN])
      rw [hn]
      refine ⟨_, rfl, ?_⟩
      refine zst ?_
      refine W.regD [(0, .q), (1, .q), (2, .q), (3, .q), (4, .q), (5, .q), (6, .q), (7, .q), (8, .q), (9, .q), (10, .q), (11, .q), (12, .q), (13, .q), (14, .q), (15, .q), (16, .q), (17, .q), (18, .q), (19, .q), (20, .q), (21, .q), (22, .q), (23, .q), (24, .q), (25, .q), (26, .q), (27, .q), (28, .q), (29, .q), (30, .q), (31, .q), (32, .q), (33, .q), (34, .l), (35, .q), (36, .q)] (by kernel_rfl) (by kernel_rfl) rfl ?_
      intro w1 x1 _
      have m1' := m1.ext' x1
      have m2' := m2.ext' x1
      refine zsd ?_
      rw [decide_eq_false (show ¬ t1.n < 0 by omega)]
      refine zsd ?_
      rw [decide_eq_false (show ¬ t2.n < 0 by omega)]
      refine zsd ?_
      cases hq : t1.n == t2.n
      · refine zsd ?_
        refine zst ?_
        exact fin1 (.inl rfl) rfl rfl ⟨rfl, x1⟩
      · refine zsd ?_
        refine WD.stp rfl rfl rfl rfl (stp_call rfl (ih z1 d1 w1 u1 u2 e1 e2 z2 a (ic.ext x1) (hcb.ext' x1) (tx1.ext x1) (tx2.ext x1) ((hst.ext x1).le (by omega) (by omega)))) ?_
        rintro _ w2 ⟨rfl, x2⟩
        refine ⟨x2, ?_⟩
        refine zsd ?_
        refine zst ?_
        exact fin1 (.inl rfl) rfl rfl ⟨rfl, x1.trans x2⟩
    | _ => omega
  | _ => omega
end Go.Proofs.YtlemfkbhcleopaaGreatDoor
namespace Go.Proofs.YtlemfkbhcleopaaGreatDoor
open Go Go.Kd
set_option maxRecDepth 100000

theorem idX_two {tags : Bool} {t t' : Ty} {z z' q q' : X} (hk : t.kind = 5) (hk' : t'.kind = 5) : idX tags (.node t.kind (nN t) (cN t) (vN t) (anN t) [z, q]) (.node t'.kind (nN t') (cN t') (vN t') (anN t') [z', q']) = (idX tags z z' && idX tags q q') := by
  rw [idX_node]
  unfold nN cN vN anN
  simp [hk, hk', sameAn, idL]
theorem RX.two {K : Cfg} {s : Gs} {w : World} {v : Value} {t : Ty} {x : X} (h : RX K s w v t x) (ic : IC K s w) (h5 : t.kind = 5) {k e : Ty} {u u' : Value} (he : t.elems = [k, e]) (hu : RT K s w s.sl u k) (hu' : RT K s w s.sl u' e) : ∃ z q, TX K s w u k z ∧ TX K s w u' e q ∧ x = .node t.kind (nN t) (cN t) (vN t) (anN t) [z, q] ∧ dX z < dX x ∧ dX q < dX x := by
  obtain ⟨es, rfl, hl, hx⟩ := h.ro.plain_of (by omega) (by omega)
  rw [he] at hl
  obtain ⟨z, q, rfl⟩ : ∃ z q, es = [z, q] := by
    match es, hl with
    | [z, q], _ => exact ⟨z, q, rfl⟩
  have h0 : t.elems[0]? = some k := by rw [he]; rfl
  have h1 : t.elems[1]? = some e := by rw [he]; rfl
  have hg := h.good (by omega)
  have hl := h.legal (by omega)
  exact ⟨z, q, .of ic hu (hg.el h0) (hl.el 0 k h0) (hx 0 k z h0 rfl), .of ic hu' (hg.el h1) (hl.el 1 e h1) (hx 1 e q h1 rfl), rfl, dX_at (i := 0) rfl, dX_at (i := 1) rfl⟩
set_option maxHeartbeats 1000000 in
theorem id_map {K : Cfg} {s : Gs} {w : World} {cb : Nat} {ign : Bool} {x y : X} {vx vy : Value} {t1 t2 : Ty} {a : Option Addr} (ih : ∀ z, dX z < dX x → IdG K s cb ign z) (ic : IC K s w) (hcb : Has w cb (.cells (cmc ign) tCM)) (hx : RX K s w vx t1 x) (hy : RX K s w vy t2 y) (hst : Stk K s w (dX x) (dX y) a) (k1 : t1.kind = 5) (k2 : t2.kind = 5) : IdT w cb vx vy a (idX (!ign) x y) := by
  obtain ⟨rt1, rt2⟩ := (⟨hx.rt, hy.rt⟩ : _ ∧ _)
  cases rt1 with
  | map _ e1 f1 u1 v1 b1 _ h1 r1 r1' _ m1 g1 =>
    cases rt2 with
    | map _ e2 f2 u2 v2 b2 _ h2 r2 r2' _ m2 g2 =>
      obtain ⟨z1, q1, tx1, ty1, ex1, d1, c1⟩ := hx.two ic (by omega) h1 r1 r1'
      obtain ⟨z2, q2, tx2, ty2, ex2, d2, c2⟩ := hy.two ic (by omega) h2 r2 r2'
      have hn : idX (!ign) x y = (idX (!ign) z1 z2 && idX (!ign) q1 q2) := by rw [ex1, ex2, idX_two k1 k2]
      rw [hn]
      refine ⟨_, rfl, ?_⟩
      refine zst ?_
      refine W.regD [(0, .q), (1, .q), (2, .q), (3, .q), (4, .q), (5, .q), (6, .q), (7, .q), (8, .q), (9, .q), (10, .l), (11, .q), (12, .q), (13, .q), (14, .q), (15, .q), (16, .q), (17, .q), (18, .q), (19, .q), (20, .q), (21, .q), (22, .l), (23, .q), (24, .q)] (by kernel_rfl) (by kernel_rfl) rfl ?_
      intro w1 x1 _
      have m1' := m1.ext' x1
      have m2' := m2.ext' x1
      refine zsd ?_
      refine WD.stp rfl rfl rfl rfl (stp_call rfl (ih z1 d1 w1 u1 u2 e1 e2 z2 a (ic.ext x1) (hcb.ext' x1) (tx1.ext x1) (tx2.ext x1) ((hst.ext x1).le (by omega) (by omega)))) ?_
      rintro _ w2 ⟨rfl, x2⟩
      refine ⟨x2, ?_⟩
      have x12 := x1.trans x2
      have m1'' := m1.ext' x12
      have m2'' := m2.ext' x12
      cases hq : idX (!ign) z1 z2
      · refine zsd ?_
        refine zst ?_
        exact fin1 (.inl rfl) rfl rfl ⟨rfl, x12⟩
      · refine zsd ?_
        refine WD.stp rfl rfl rfl rfl (stp_call rfl (ih q1 c1 w2 v1 v2 f1 f2 q2 a (ic.ext x12) (hcb.ext' x12) (ty1.ext x12) (ty2.ext x12) ((hst.ext x12).le (by omega) (by omega)))) ?_
        rintro _ w3 ⟨rfl, x3⟩
        refine ⟨x3, ?_⟩
        refine zsd ?_
        refine zst ?_
        exact fin1 (.inl rfl) rfl rfl ⟨rfl, x12.trans x3⟩
    | _ => omega
  | _ => omega
theorem id_basic {K : Cfg} {s : Gs} {w : World} {cb : Nat} {ign : Bool} {n n' : Int} {vx vy : Value} {t1 t2 : Ty} {a : Option Addr} (hx : RT K s w s.sl vx t1) (hy : RT K s w s.sl vy t2) (k1 : t1.kind = 0) (p1 : t1.n ≠ 20) (q1 : t1.n ≠ 21) (e1 : n = (if t1.n = 18 then 7 else if t1.n = 19 then 4 else t1.n)) (k2 : t2.kind = 0) (p2 : t2.n ≠ 20) (q2 : t2.n ≠ 21) (e2 : n' = (if t2.n = 18 then 7 else if t2.n = 19 then 4 else t2.n)) :
    IdT w cb vx vy a (idX (!ign) (.leaf 0 n) (.leaf 0 n')) := by
  cases hx with
  | basic _ b1 i1 nb1 _ l1 l1' _ m1 g1 =>
    cases hy with
    | basic _ b2 i2 nb2 _ l2 l2' _ m2 g2 =>
      have hn : idX (!ign) (.leaf 0 n) (.leaf 0 n') = (bk t1.n == bk t2.n) := by
        simp only [idX, beq_self_eq_true, Bool.true_and]
        rw [Bool.eq_iff_iff, beq_iff_eq, beq_iff_eq, e1, e2]
        unfold bk
        repeat' split
        all_goals omega
      rw [hn]
      refine ⟨_, rfl, ?_⟩
      refine zst ?_
      refine W.regD [(0, .q), (1, .q), (2, .q), (3, .q), (4, .q), (5, .q), (6, .q), (7, .q), (8, .q), (9, .q)] (by kernel_rfl) (by kernel_rfl) rfl ?_
      intro w1 x1 _
      have m1' := m1.ext' x1
      have m2' := m2.ext' x1
      refine zsd ?_
      refine zst ?_
      exact fin1 (.inl rfl) rfl rfl ⟨rfl, x1⟩
    | _ => omega
  | _ => omega

/-! ### Declared types -/
theorem dynK_ne (k : Int) : dynK k ≠ tNP := by
  unfold dynK
  repeat' split
  all_goals decide
theorem c_asNamed_yes (b T ub : Nat) (obj ms : Value) (w : World) (_h : NamV w b obj (.iface T (pt ub)) ms) : Calls Tryz.prog 95 #[.iface tNP (pt b)] w (Ret fun r w' => r = pt b ∧ w = w') := by
  refine W.enter (args := [.iface tNP (pt b)]) Tryz.func95 rfl Tryz.ntmps95 rfl rfl ?_
  refine zst ?_
  refine WU.stp rfl rfl rfl (stp_call rfl (c_Unalias_no tNP (pt b) w rfl)) ?_
  rintro _ _ ⟨rfl, rfl⟩
  refine zst ?_
  exact fin1 (.inl rfl) rfl rfl ⟨rfl, rfl⟩
theorem c_identicalOrigin (b1 b2 ob1 ob2 : Nat) (u1 u2 ms1 ms2 : Value) (w : World) (h1 : NamV w b1 (pt ob1) u1 ms1) (h2 : NamV w b2 (pt ob2) u2 ms2) (l1 : Pl w ob1) (l2 : Pl w ob2) :
    Calls Tryz.prog 127 #[pt b1, pt b2] w (Ret fun r w' => r = .bool (decide (ob1 = ob2)) ∧ Ext w w') := by
  have h1' : Has w b1 (.cells (nmc (pt ob1) false 0 15 u1 u1 ms1) tNM) := h1
  have h2' : Has w b2 (.cells (nmc (pt ob2) false 0 15 u2 u2 ms2) tNM) := h2
  refine W.enter (args := [pt b1, pt b2]) Tryz.func127 rfl Tryz.ntmps127 rfl rfl ?_
  refine zst ?_
  refine W.regD [(0, .q), (1, .q), (2, .q), (3, .q), (4, .q), (5, .q), (6, .q), (7, .q), (8, .q), (9, .q)] (by kernel_rfl) (by kernel_rfl) rfl ?_
  intro w1 x1 _
  have k1 := h1'.ext' x1
  have k2 := h2'.ext' x1
  have p1 := l1.ext' x1
  have p2 := l2.ext' x1
  refine zsd ?_
  refine WD.yld rfl rfl rfl rfl (yld_eql_ptr rfl rfl) ?_
  refine zsd ?_
  refine zst ?_
  exact fin1 (.inl rfl) rfl rfl ⟨by simp, x1⟩
/-- what lies behind a declared type, or error -/
theorem RX.nam {K : Cfg} {s : Gs} {w : World} (ic : IC K s w) {v : Value} {t : Ty} {x : X} (h : RX K s w v t x) (hd : dynX x = tNP) : ∃ b ob u ms pk nm, v = .iface tNP (pt b) ∧ NamV w b (pt ob) u ms ∧ TnV w ob pk nm (.iface tNP (pt b)) ∧ s.g b = some (gk t) ∧ ∃ T ub, u = .iface T (pt ub) := by
  have hd' := hd
  cases hro : h.ro with
  | basic n h0 h1 h2 h3 =>
    exfalso
    have h20 : n ≠ 20 := by
      rw [h3]
      split
      · omega
      split <;> omega
    have : dynX (.leaf 0 n) = 135 := by
      show (if (0 : Int) = 1 ∨ n = 20 then tNP else _) = _
      rw [if_neg (by omega)]
    rw [this] at hd
    exact absurd hd (by decide)
  | error h0 h1 =>
    obtain ⟨b, ob, u, ms, nm, q1, q2, q3, q4, q5⟩ := ic.er
    have hv := h.rt.err h0 h1
    rw [q1] at hv q3
    exact ⟨b, ob, u, ms, _, _, hv, q4, q3, by unfold gk; rw [if_neg (by omega), if_pos ⟨h0, h1⟩]; exact q2, q5.isI isLit_errT⟩
  | named hk =>
    obtain ⟨h0, h1, h2⟩ := h.rd hk
    have hel := List.getElem?_eq_getElem h1
    obtain ⟨b, ob, T, ub, ms, z, hv, k1, k2, k3, _⟩ := ic.dc.def_ hel h2 (by rw [← isAl_n hk hel]; exact h.al) (h.rt.nam hk)
    exact ⟨b, ob, _, ms, _, _, hv, k3, k2, by unfold gk; rw [if_pos hk]; exact k1, T, ub, rfl⟩
  | plain es h2 h8 =>
    exact absurd hd (dynK_ne _)
  | iface ms es => exact absurd hd (dynK_ne _)
theorem id_named {K : Cfg} {s : Gs} {w : World} {cb : Nat} {ign : Bool} {x y : X} {vx vy : Value} {t1 t2 : Ty} {a : Option Addr} (ic : IC K s w) (hx : RX K s w vx t1 x) (hy : RX K s w vy t2 y) (d1 : dynX x = tNP) (d2 : dynX y = tNP) (hwx : WfX x) : IdT w cb vx vy a (idX (!ign) x y) := by
  obtain ⟨b1, ob1, _, ms1, pk1, nm1, rfl, n1, o1, g1, T1, ub1, rfl⟩ := hx.nam ic d1
  obtain ⟨b2, ob2, _, ms2, pk2, nm2, rfl, n2, o2, g2, T2, ub2, rfl⟩ := hy.nam ic d2
  have hn : idX (!ign) x y = decide (ob1 = ob2) := by
    rw [Bool.eq_iff_iff, decide_eq_true_eq]
    constructor
    · intro h
      have hxy : y = x := by
        cases hx.ro with
        | basic n => exact idX_leaf h
        | error => exact idX_leaf h
        | named => exact idX_leaf h
        | plain es h2 h8 =>
          exact absurd d1 (dynK_ne _)
        | iface ms es => exact absurd d1 (dynK_ne _)
      subst hxy
      have hb : b1 = b2 := by
        have key : ∀ {t : Ty} {b : Nat}, RX K s w (.iface tNP (pt b)) t y → (y = .leaf 0 20 ∧ s.er = .iface tNP (pt b)) ∨ (∃ n : Int, y = .leaf 1 n ∧ s.nm n.toNat = some (.iface tNP (pt b))) := fun {t b} hr => by
          have hr2 := hr.ro
          cases hr2 with
          | basic n h0 h1 h2 h3 =>
            exfalso
            have h20 : n ≠ 20 := by
              rw [h3]
              split
              · omega
              split <;> omega
            have : dynX (.leaf 0 n) = 135 := by
              show (if (0 : Int) = 1 ∨ n = 20 then tNP else _) = _
              rw [if_neg (by omega)]
            rw [this] at d1
            exact absurd d1 (by decide)
          | error h0 h1 => exact .inl ⟨rfl, (hr.rt.err h0 h1).symm⟩
          | named hk => exact .inr ⟨_, rfl, hr.rt.nam hk⟩
          | plain es h2 h8 =>
            exact absurd d1 (dynK_ne _)
          | iface ms es => exact absurd d1 (dynK_ne _)
        rcases key hx with ⟨e1, f1⟩ | ⟨n, e1, f1⟩ <;> rcases key hy with ⟨e2, f2⟩ | ⟨n', e2, f2⟩
        · rw [f1] at f2; cases f2; rfl
        · rw [e1] at e2; cases e2
        · rw [e1] at e2; cases e2
        · rw [e1] at e2
          cases e2
          rw [f1] at f2; cases f2; rfl
      subst hb
      have e := n1.at_.symm.trans n2.at_
      simp only [Option.some.injEq, Obj.cells.injEq, and_true] at e
      have e2 := congrArg Array.toList e
      simp only [List.cons.injEq, and_true, true_and] at e2
      have e3 := e2.1
      simp only [Value.pointer.injEq, Option.some.injEq, Addr.mk.injEq, and_true] at e3
      exact e3
    · intro h
      subst h
      have e := o1.at_.symm.trans o2.at_
      simp only [Option.some.injEq, Obj.cells.injEq, and_true] at e
      have e2 := congrArg Array.toList e
      simp only [List.cons.injEq, and_true, true_and] at e2
      have hb : b1 = b2 := by
        have e3 := e2.2.2
        simp only [Value.iface.injEq, Value.pointer.injEq, Option.some.injEq, Addr.mk.injEq, and_true, true_and] at e3
        exact e3
      subst hb
      rw [g1] at g2
      have hxy := gk_root hx.ro hy.ro (Option.some.inj g2) (fun h => (hx.rd h).1) (fun h => (hy.rd h).1)
      subst hxy
      exact idX_refl _ _ hwx
  rw [hn]
  refine ⟨_, rfl, ?_⟩
  refine zst ?_
  refine WU.stp rfl rfl rfl (stp_call rfl (c_asNamed_yes b2 T2 ub2 _ _ w n2)) ?_
  rintro _ _ ⟨rfl, rfl⟩
  refine zst ?_
  refine WU.stp rfl rfl rfl (stp_call rfl (c_identicalOrigin b1 b2 ob1 ob2 _ _ _ _ w n1 n2 ⟨_, _, o1.at_⟩ ⟨_, _, o2.at_⟩)) ?_
  rintro _ w1 ⟨rfl, x1⟩
  refine zst ?_
  first
    | exact fin1 (.inl rfl) rfl rfl ⟨rfl, x1⟩
    | exact fin1 (.inr rfl) rfl rfl ⟨rfl, x1⟩
end Go.Proofs.YtlemfkbhcleopaaGreatDoor
namespace Go.Proofs.YtlemfkbhcleopaaGreatDoor
open Go Go.Kd
set_option maxRecDepth 100000


abbrev tSK : Nat := 199
theorem c_samePkg2 (c c' : Nat) (pa px pa' px' : ByteArray) (w : World) (h : Has w c (.cells #[.string pa, .string px] tPK)) (h' : Has w c' (.cells #[.string pa', .string px'] tPK)) : Calls Tryz.prog 111 #[pt c, pt c'] w (Ret fun r w' => r = .bool (pa.toList == pa'.toList) ∧ Ext w w') := by
  refine W.enter (args := [pt c, pt c']) Tryz.func111 rfl Tryz.ntmps111 rfl rfl ?_
  refine zst ?_
  refine W.regD [(0, .q), (1, .q), (2, .q), (3, .q), (4, .q), (5, .q), (6, .q), (7, .q), (8, .q), (9, .q)] (by kernel_rfl) (by kernel_rfl) rfl ?_
  intro w2 x2 _
  have h2 := h.ext' x2
  have h2' := h'.ext' x2
  refine zsd ?_
  refine zst ?_
  exact fin1 (.inl rfl) rfl rfl ⟨rfl, x2⟩
theorem c_sameId (vb c c' : Nat) (nm nm' pa px pa' px' : ByteArray) (v : Value) (kd : Int) (emb : Bool) (w : World) (hp : Prp w) (hv : VarV w vb (pt c) nm v kd emb) (h : Has w c (.cells #[.string pa, .string px] tPK)) (h' : Has w c' (.cells #[.string pa', .string px'] tPK)) (ha : Asc nm) :
    Calls Tryz.prog 121 #[pt vb, pt c', .string nm', .bool false] w (Ret fun r w' => r = .bool (nm.toList == nm'.toList && (expo nm.toList || pa.toList == pa'.toList)) ∧ Ext w w') := by
  obtain ⟨ch, l, hs, hc⟩ := ha
  have hv' : Has w vb (.cells #[.int .i64 0, pt c, .string nm, v, .int .u8 kd, .bool emb] 201) := hv
  refine W.enter (args := [pt vb, pt c', .string nm', .bool false]) Tryz.func121 rfl Tryz.ntmps121 rfl rfl ?_
  refine zst ?_
  cases hn : nm.toList == nm'.toList
  · refine zst ?_
    exact fin1 (.inl rfl) rfl rfl ⟨rfl, Ext.rfl' _⟩
  · refine zst ?_
    have he : Calls Tryz.prog 153 #[pt vb] w (Ret fun r w' => r = .bool (expo nm.toList) ∧ w = w') := by
      refine W.enter (args := [pt vb]) Tryz.func153 rfl Tryz.ntmps153 rfl rfl ?_
      refine zst ?_
      refine WU.stp rfl rfl rfl (stp_call rfl (c_expo nm ch l w hp hs hc)) ?_
      rintro _ _ ⟨rfl, rfl⟩
      refine zst ?_
      exact fin1 (.inl rfl) rfl rfl ⟨rfl, rfl⟩
    refine WU.stp rfl rfl rfl (stp_call rfl (he)) ?_
    rintro _ _ ⟨rfl, rfl⟩
    cases hx : expo nm.toList
    · refine zst ?_
      refine WU.stp rfl rfl rfl (stp_call rfl (c_samePkg2 c c' pa px pa' px' w h h')) ?_
      rintro _ w2 ⟨rfl, x2⟩
      refine zst ?_
      exact fin1 (.inl rfl) rfl rfl ⟨rfl, x2⟩
    · refine zst ?_
      exact fin1 (.inl rfl) rfl rfl ⟨rfl, Ext.rfl' _⟩
theorem c_NumFields (b n m fc tc : Nat) (fa ta : Option Addr) (w : World) (h : Has w b (.cells #[.slice fa n fc, .slice ta m tc] tSK)) : Calls Tryz.prog 119 #[pt b] w (Ret fun r w' => r = .int .i64 n ∧ w = w') := by
  refine W.enter (args := [pt b]) Tryz.func119 rfl Tryz.ntmps119 rfl rfl ?_
  refine zst ?_
  exact fin1 (.inl rfl) rfl rfl ⟨rfl, rfl⟩
theorem c_Tag (b n m fc tc i : Nat) (fa ta : Option Addr) (tg : Nat → ByteArray) (p : Nat → Prop) (w : World) (h : Has w b (.cells #[.slice fa n fc, .slice ta m tc] tSK)) (hr : RowS w p ta m tg) (hi : i < m) (_hm : m ≤ 1073741824) : Calls Tryz.prog 120 #[pt b, .int .i64 i] w (Ret fun r w' => r = .string (tg i) ∧ w = w') := by
  obtain ⟨g, cs, rfl, _, hg, hci⟩ := hr i hi
  refine W.enter (args := [pt b, .int .i64 i]) Tryz.func120 rfl Tryz.ntmps120 rfl rfl ?_
  refine zst ?_
  rw [show decide ((i : Int) < (m : Int)) = true by simpa using hi]
  refine zst ?_
  refine WU.yld rfl rfl rfl (yld_load_c rfl (by rw [Nat.mul_one, Nat.zero_add]; exact cell_of hg hci)) ?_
  refine zst ?_
  exact fin1 (.inl rfl) rfl rfl ⟨rfl, rfl⟩
theorem RowQ.cell {w : World} {p : Nat → Prop} {t : Nat} {a : Option Addr} {n : Nat} {f : Nat → Nat} (h : RowQ w p t a n f) {i : Nat} (hi : i < n) : ∃ b, a = some ⟨b, 0, none⟩ ∧ p b ∧ w.cell? ⟨b, 0 + i * 1, none⟩ = some (pt (f i)) := by
  obtain ⟨b, cs, h1, h2, h3, h4⟩ := h i hi
  exact ⟨b, h1, h2, by rw [Nat.mul_one, Nat.zero_add]; exact cell_of h3 h4⟩
end Go.Proofs.YtlemfkbhcleopaaGreatDoor
namespace Go.Proofs.YtlemfkbhcleopaaGreatDoor
open Go Go.Kd
set_option maxRecDepth 100000

theorem RowS.ext {w w' : World} (x : Ext w w') {p : Nat → Prop} {a : Option Addr} {n : Nat} {f : Nat → ByteArray} (h : RowS w p a n f) : RowS w' p a n f := fun i hi => by
  obtain ⟨b, cs, h1, h2, h3, h4⟩ := h i hi
  exact ⟨b, cs, h1, h2, h3.ext' x, h4⟩
def SF (tags : Bool) (t1 t2 e e' : Ty) (z z' : X) : Prop := keyOf e.name.toList t1.n = keyOf e'.name.toList t2.n ∧ e.emb = e'.emb ∧ (tags = true → e.tag.toList = e'.tag.toList) ∧ idX tags z z' = true
theorem idX_struct {tags : Bool} {t1 t2 : Ty} {es1 es2 : List X} (k1 : t1.kind = 7) (k2 : t2.kind = 7) (l1 : es1.length = t1.elems.length) (l2 : es2.length = t2.elems.length) :
    idX tags (.node t1.kind (nN t1) (cN t1) (vN t1) (anN t1) es1) (.node t2.kind (nN t2) (cN t2) (vN t2) (anN t2) es2) = true ↔ t1.elems.length = t2.elems.length ∧ ∀ (i : Nat) e e' z z', t1.elems[i]? = some e → t2.elems[i]? = some e' → es1[i]? = some z → es2[i]? = some z' → SF tags t1 t2 e e' z z' := by
  rw [idX_node]
  unfold nN cN vN anN
  simp only [k1, k2, beq_self_eq_true, Bool.true_and, if_true, show ¬ (7 : Int) = 9 from by decide, show ¬ ((7 : Int) = 4 ∨ (7 : Int) = 6) from by decide, show ¬ (7 : Int) = 8 from by decide, if_false, Bool.and_eq_true, sameAn_iff, idL_iff, List.length_map]
  constructor
  · rintro ⟨⟨h1, h2⟩, h3, h4⟩
    refine ⟨h1, fun i e e' z z' he he' hz hz' => ?_⟩
    obtain ⟨q1, q2, q3⟩ := h2 i _ _ (by rw [List.getElem?_map, he]; rfl) (by rw [List.getElem?_map, he']; rfl)
    exact ⟨q1, q2, q3, h4 i z z' hz hz'⟩
  · rintro ⟨h1, h2⟩
    refine ⟨⟨h1, fun i a b ha hb => ?_⟩, by omega, fun i z z' hz hz' => ?_⟩
    · rw [List.getElem?_map, Option.map_eq_some_iff] at ha hb
      obtain ⟨e, he, rfl⟩ := ha
      obtain ⟨e', he', rfl⟩ := hb
      have hl := (List.getElem?_eq_some_iff.1 he).1
      have hl' := (List.getElem?_eq_some_iff.1 he').1
      obtain ⟨q1, q2, q3, _⟩ := h2 i e e' es1[i] es2[i] he he' (List.getElem?_eq_getElem (by omega)) (List.getElem?_eq_getElem (by omega))
      exact ⟨q1, q2, q3⟩
    · have hl := (List.getElem?_eq_some_iff.1 hz).1
      have hl' := (List.getElem?_eq_some_iff.1 hz').1
      exact (h2 i t1.elems[i] t2.elems[i] z z' (List.getElem?_eq_getElem (by omega)) (List.getElem?_eq_getElem (by omega)) hz hz').2.2.2
theorem pk_of {K : Cfg} {s : Gs} {w : World} (ic : IC K s w) {t : Ty} {v : Value} {x : X} (h : RX K s w v t x) (k : t.kind = 7 ∨ t.kind = 9) : (t.n = 0 ∨ t.n = 1) ∧ ∃ c px, s.pk t.n = pt c ∧ Has w c (.cells #[.string (pth t.n), .string px] tPK) := by
  obtain ⟨i, v, _, q⟩ := (h.good (by omega)).sh
  have h0 := q.shape.n0 (by rcases k with k | k <;> rw [k] <;> simp [limitN])
  have h1 := q.shape.n1 (by rcases k with k | k <;> rw [k] <;> simp [limitN])
  have h2 : limitN K.D t.kind = 2 := by rcases k with k | k <;> rw [k] <;> simp [limitN]
  rw [h2] at h1
  have hn : t.n = 0 ∨ t.n = 1 := by omega
  obtain ⟨c, px, e1, e2⟩ := ic.pkg t.n hn
  exact ⟨hn, c, px, e1, e2⟩
theorem key_iff {s s' : List UInt8} {p p' : Int} (hp : p = 0 ∨ p = 1) (hp' : p' = 0 ∨ p' = 1) : (s == s' && (expo s || (pth p).toList == (pth p').toList)) = true ↔ keyOf s p = keyOf s' p' := by
  rw [← sameNm_iff]
  unfold sameNm
  simp only [Bool.and_eq_true, Bool.or_eq_true, beq_iff_eq]
  constructor
  · rintro ⟨h1, h2 | h2⟩
    · exact ⟨h1, .inr h2⟩
    · exact ⟨h1, .inl (pth_inj hp hp' h2)⟩
  · rintro ⟨h1, h2 | h2⟩
    · exact ⟨h1, .inr (by rw [h2])⟩
    · exact ⟨h1, .inl h2⟩
set_option maxHeartbeats 8000000 in
theorem id_struct {K : Cfg} {s : Gs} {w : World} {cb : Nat} {ign : Bool} {x y : X} {vx vy : Value} {t1 t2 : Ty} {a : Option Addr} (ih : ∀ z, dX z < dX x → IdG K s cb ign z) (ic : IC K s w) (hcb : Has w cb (.cells (cmc ign) tCM)) (hx : RX K s w vx t1 x) (hy : RX K s w vy t2 y) (hst : Stk K s w (dX x) (dX y) a) (k1 : t1.kind = 7) (k2 : t2.kind = 7) : IdT w cb vx vy a (idX (!ign) x y) := by
  obtain ⟨es1, ex1, l1, xe1⟩ := hx.ro.plain_of (by omega) (by omega)
  obtain ⟨es2, ex2, l2, xe2⟩ := hy.ro.plain_of (by omega) (by omega)
  obtain ⟨hn1, c1, px1, hpk1, hc1⟩ := pk_of ic hx (.inl k1)
  obtain ⟨hn2, c2, px2, hpk2, hc2⟩ := pk_of ic hy (.inl k2)
  have gd1 := hx.good (by omega)
  have gd2 := hy.good (by omega)
  have lg1 := hx.legal (by omega)
  have lg2 := hy.legal (by omega)
  have hlen : ∀ {t : Ty}, Good K.D t → t.elems.length ≤ 16777216 := fun {t} hg => by
    have h1 : ∀ l : List Ty, l.length ≤ wts l := fun l => by
      induction l with
      | nil => exact Nat.zero_le _
      | cons e r ih =>
        have := wt_pos e
        simp only [List.length_cons, wts]
        omega
    have := h1 t.elems
    have := wt_eq t
    have := hg.wt
    omega
  have hb1 := hlen gd1
  have hb2 := hlen gd2
  have hr := idX_struct (tags := !ign) k1 k2 l1 l2
  rw [← ex1, ← ex2] at hr
  obtain ⟨rt1, rt2⟩ := (⟨hx.rt, hy.rt⟩ : _ ∧ _)
  cases rt1 with
  | struct _ b1 fa1 fc1 ta1 tc1 vb1 vv1 tg1 _ r1 f1 _ m1 rq1 rs1 g1 =>
    cases rt2 with
    | struct _ b2 fa2 fc2 ta2 tc2 vb2 vv2 tg2 _ r2 f2 _ m2 rq2 rs2 g2 =>
      refine ⟨_, rfl, ?_⟩
      refine zst ?_
      refine WU.stp rfl rfl rfl (stp_call rfl (c_NumFields b1 _ _ _ _ _ _ w m1)) ?_
      rintro _ _ ⟨rfl, rfl⟩
      refine zst ?_
      refine WU.stp rfl rfl rfl (stp_call rfl (c_NumFields b2 _ _ _ _ _ _ w m2)) ?_
      rintro _ _ ⟨rfl, rfl⟩
      refine zst ?_
      by_cases hl : t1.elems.length = t2.elems.length
      · rw [show ((t1.elems.length : Int) == (t2.elems.length : Int)) = true by rw [hl]; exact beq_self_eq_true _]
        refine zst ?_
        refine W.loop (σ := Nat) (fun k => [(191, .int .i64 k), (190, .int .i64 t1.elems.length), (189, .slice fa1 t1.elems.length fc1), (19, pt b2), (18, pt b1), (3, .pointer a), (0, pt cb)])
          (fun k D' wk => D' = [] ∧ k ≤ t1.elems.length ∧ Ext w wk ∧ ∀ (i : Nat) e e' z z', i < k → t1.elems[i]? = some e → t2.elems[i]? = some e' → es1[i]? = some z → es2[i]? = some z' → SF (!ign) t1 t2 e e' z z')
          (fun k => t1.elems.length - k) 0 ⟨rfl, Nat.zero_le _, Ext.rfl' _, fun i _ _ _ _ h => by omega⟩ (by exact sub_of ⟨rfl, rfl, rfl, rfl, rfl, rfl, rfl, trivial⟩) ?_
        rintro k D' wk ⟨rfl, hk, xk, hI⟩
        refine zst ?_
        by_cases hlt : k < t1.elems.length
        · rw [show decide ((k : Int) < (t1.elems.length : Int)) = true by simpa using hlt]
          have he1 : t1.elems[k]? = some t1.elems[k] := List.getElem?_eq_getElem hlt
          have he2 : t2.elems[k]? = some t2.elems[k] := List.getElem?_eq_getElem (by omega)
          have hz1 : es1[k]? = some es1[k] := List.getElem?_eq_getElem (by omega)
          have hz2 : es2[k]? = some es2[k] := List.getElem?_eq_getElem (by omega)
          generalize t1.elems[k] = e1 at he1
          generalize t2.elems[k] = e2 at he2
          generalize es1[k] = z1 at hz1
          generalize es2[k] = z2 at hz2
          obtain ⟨rb1, rfl, _, hrc1⟩ := rq1.cell hlt
          obtain ⟨rb2, rfl, _, hrc2⟩ := rq2.cell (i := k) (by omega)
          obtain ⟨_, fv1, ft1⟩ := f1 k e1 he1
          obtain ⟨_, fv2, ft2⟩ := f2 k e2 he2
          rw [hpk1] at fv1
          rw [hpk2] at fv2
          have fv1k : Has wk (vb1 k) (.cells #[.int .i64 0, pt c1, .string e1.name, vv1 k, .int .u8 6, .bool e1.emb] 201) := fv1.ext' xk
          have fv2k : Has wk (vb2 k) (.cells #[.int .i64 0, pt c2, .string e2.name, vv2 k, .int .u8 6, .bool e2.emb] 201) := fv2.ext' xk
          have m1k := m1.ext' xk
          have m2k := m2.ext' xk
          have hfail : ¬ SF (!ign) t1 t2 e1 e2 z1 z2 → idX (!ign) x y = false := fun hn => by
            rw [Bool.eq_false_iff]
            exact fun h => hn ((hr.1 h).2 k e1 e2 z1 z2 he1 he2 hz1 hz2)
          refine zst ?_
          refine WU.yld rfl rfl rfl (yld_load_c rfl (xk.cell hrc1)) ?_
          refine zst ?_
          refine WU.yld rfl rfl rfl (yld_load_c rfl (xk.cell hrc2)) ?_
          refine zst ?_
          refine W.regD [(0, .q), (1, .q), (2, .q), (3, .q), (4, .q), (5, .q), (6, .q), (7, .q), (8, .q), (9, .q), (10, .q), (11, .q), (12, .q), (13, .q), (14, .q), (15, .q), (16, .q), (17, .q), (19, .q), (20, .q), (18, .l), (21, .l), (22, .q), (23, .q), (24, .q), (25, .q), (26, .q), (27, .q), (28, .q), (29, .q), (30, .q), (31, .q), (32, .q), (33, .q), (34, .q), (35, .q), (36, .q), (37, .q), (38, .q), (39, .l), (40, .q), (41, .q), (42, .q), (43, .q), (44, .q), (45, .q), (46, .q), (47, .q), (48, .q), (49, .q), (50, .q), (51, .q), (52, .q), (53, .q), (54, .q), (55, .l), (56, .q), (57, .q)] (by kernel_rfl) (by kernel_rfl) rfl ?_
          intro w1 x1 _
          have x01 := xk.trans x1
          have fv1' := fv1k.ext' x1
          have fv2' := fv2k.ext' x1
          have m1' := m1k.ext' x1
          have m2' := m2k.ext' x1
          have hcb1 := hcb.ext' x01
          refine zsd ?_
          have hasc : Asc e1.name := Ident.asc ((lg1.here.fld k1).id k _ (by unfold names; rw [List.getElem?_map, he1]; rfl))
          have hd1 : dX z1 < dX x := by rw [ex1]; exact dX_at hz1
          have hd2 : dX z2 < dX y := by rw [ex2]; exact dX_at hz2
          cases hq : (e1.emb == e2.emb)
          · have q2 : e1.emb ≠ e2.emb := by simpa using hq
            refine zsd ?_
            refine zst ?_
            refine fin1 (.inl rfl) rfl rfl ⟨?_, x01⟩
            rw [hfail fun h => q2 h.2.1]
          · have q2 : e1.emb = e2.emb := by simpa using hq
            refine zsd ?_
            cases ign
            · refine zsd ?_
              refine WD.stp rfl rfl rfl rfl (stp_call rfl (c_Tag b1 _ _ _ _ k _ _ tg1 _ w1 m1' (rs1.ext x01) hlt (by omega))) ?_
              rintro _ _ ⟨rfl, rfl⟩
              refine ⟨Ext.rfl' _, ?_⟩
              refine zsd ?_
              refine WD.stp rfl rfl rfl rfl (stp_call rfl (c_Tag b2 _ _ _ _ k _ _ tg2 _ w1 m2' (rs2.ext x01) (by omega) (by omega))) ?_
              rintro _ _ ⟨rfl, rfl⟩
              refine ⟨Ext.rfl' _, ?_⟩
              refine zsd ?_
              cases ht : ((tg1 k).toList == (tg2 k).toList)
              · refine zsd ?_
                refine zst ?_
                refine fin1 (.inl rfl) rfl rfl ⟨?_, x01⟩
                rw [hfail fun h => by
                  have := h.2.2.1 rfl
                  rw [← ft1, ← ft2] at this
                  rw [this] at ht
                  simp at ht]
              · have q3 : (!false) = true → e1.tag.toList = e2.tag.toList := fun _ => by rw [← ft1, ← ft2]; simpa using ht
                refine zsd ?_
                refine WD.stp rfl rfl rfl rfl (stp_call rfl (c_sameId (vb1 k) c1 c2 e1.name e2.name (pth t1.n) px1 (pth t2.n) px2 (vv1 k) 6 e1.emb w1 (ic.prp.ext x01) fv1' (hc1.ext' x01) (hc2.ext' x01) hasc)) ?_
                rintro _ w2 ⟨rfl, x2⟩
                refine ⟨x2, ?_⟩
                have x02 := x01.trans x2
                have fv1'' := fv1'.ext' x2
                have fv2'' := fv2'.ext' x2
                cases hs : (e1.name.toList == e2.name.toList && (expo e1.name.toList || (pth t1.n).toList == (pth t2.n).toList))
                · refine zsd ?_
                  refine zst ?_
                  refine fin1 (.inl rfl) rfl rfl ⟨?_, x02⟩
                  rw [hfail fun h => by
                    have := (key_iff hn1 hn2).2 h.1
                    rw [hs] at this
                    cases this]
                · have q1 := (key_iff hn1 hn2).1 hs
                  refine zsd ?_
                  refine WD.stp rfl rfl rfl rfl (stp_call rfl (ih z1 hd1 w2 (vv1 k) (vv2 k) e1 e2 z2 a (ic.ext x02) (hcb.ext' x02) ((TX.of ic (r1 k e1 he1) (gd1.el he1) (lg1.el k e1 he1) (xe1 k e1 z1 he1 hz1)).ext x02) ((TX.of ic (r2 k e2 he2) (gd2.el he2) (lg2.el k e2 he2) (xe2 k e2 z2 he2 hz2)).ext x02) ((hst.ext x02).le (by omega) (by omega)))) ?_
                  rintro _ w3 ⟨rfl, x3⟩
                  refine ⟨x3, ?_⟩
                  have x03 := x02.trans x3
                  cases hi : idX (!false) z1 z2
                  · refine zsd ?_
                    refine zst ?_
                    refine fin1 (.inl rfl) rfl rfl ⟨?_, x03⟩
                    rw [hfail fun h => by
                      have := h.2.2.2
                      rw [hi] at this
                      cases this]
                  · refine zsd ?_
                    refine zst ?_
                    refine ⟨k + 1, by omega, ⟨rfl, by omega, x03, fun i e e' z z' hik h1 h2 h3 h4 => ?_⟩, sub_of ⟨rfl, rfl, rfl, rfl, rfl, rfl, rfl, trivial⟩⟩
                    by_cases hik' : i = k
                    · subst hik'
                      rw [he1] at h1
                      rw [he2] at h2
                      rw [hz1] at h3
                      rw [hz2] at h4
                      cases h1
                      cases h2
                      cases h3
                      cases h4
                      exact ⟨q1, q2, q3, hi⟩
                    · exact hI i e e' z z' (by omega) h1 h2 h3 h4
            · have q3 : (!true) = true → e1.tag.toList = e2.tag.toList := fun h => by cases h
              refine zsd ?_
              refine WD.stp rfl rfl rfl rfl (stp_call rfl (c_sameId (vb1 k) c1 c2 e1.name e2.name (pth t1.n) px1 (pth t2.n) px2 (vv1 k) 6 e1.emb w1 (ic.prp.ext x01) fv1' (hc1.ext' x01) (hc2.ext' x01) hasc)) ?_
              rintro _ w2 ⟨rfl, x2⟩
              refine ⟨x2, ?_⟩
              have x02 := x01.trans x2
              have fv1'' := fv1'.ext' x2
              have fv2'' := fv2'.ext' x2
              cases hs : (e1.name.toList == e2.name.toList && (expo e1.name.toList || (pth t1.n).toList == (pth t2.n).toList))
              · refine zsd ?_
                refine zst ?_
                refine fin1 (.inl rfl) rfl rfl ⟨?_, x02⟩
                rw [hfail fun h => by
                  have := (key_iff hn1 hn2).2 h.1
                  rw [hs] at this
                  cases this]
              · have q1 := (key_iff hn1 hn2).1 hs
                refine zsd ?_
                refine WD.stp rfl rfl rfl rfl (stp_call rfl (ih z1 hd1 w2 (vv1 k) (vv2 k) e1 e2 z2 a (ic.ext x02) (hcb.ext' x02) ((TX.of ic (r1 k e1 he1) (gd1.el he1) (lg1.el k e1 he1) (xe1 k e1 z1 he1 hz1)).ext x02) ((TX.of ic (r2 k e2 he2) (gd2.el he2) (lg2.el k e2 he2) (xe2 k e2 z2 he2 hz2)).ext x02) ((hst.ext x02).le (by omega) (by omega)))) ?_
                rintro _ w3 ⟨rfl, x3⟩
                refine ⟨x3, ?_⟩
                have x03 := x02.trans x3
                cases hi : idX (!true) z1 z2
                · refine zsd ?_
                  refine zst ?_
                  refine fin1 (.inl rfl) rfl rfl ⟨?_, x03⟩
                  rw [hfail fun h => by
                    have := h.2.2.2
                    rw [hi] at this
                    cases this]
                · refine zsd ?_
                  refine zst ?_
                  refine ⟨k + 1, by omega, ⟨rfl, by omega, x03, fun i e e' z z' hik h1 h2 h3 h4 => ?_⟩, sub_of ⟨rfl, rfl, rfl, rfl, rfl, rfl, rfl, trivial⟩⟩
                  by_cases hik' : i = k
                  · subst hik'
                    rw [he1] at h1
                    rw [he2] at h2
                    rw [hz1] at h3
                    rw [hz2] at h4
                    cases h1
                    cases h2
                    cases h3
                    cases h4
                    exact ⟨q1, q2, q3, hi⟩
                  · exact hI i e e' z z' (by omega) h1 h2 h3 h4
        · rw [show decide ((k : Int) < (t1.elems.length : Int)) = false by simpa using hlt]
          refine zst ?_
          refine fin1 (.inl rfl) rfl rfl ⟨?_, xk⟩
          rw [show idX (!ign) x y = true from hr.2 ⟨hl, fun i e e' z z' h1 h2 h3 h4 => hI i e e' z z' (by have := (List.getElem?_eq_some_iff.1 h1).1; omega) h1 h2 h3 h4⟩]
      · rw [show ((t1.elems.length : Int) == (t2.elems.length : Int)) = false by rw [beq_eq_false_iff_ne]; omega]
        refine zst ?_
        refine fin1 (.inl rfl) rfl rfl ⟨?_, Ext.rfl' _⟩
        rw [show idX (!ign) x y = false from by
          rw [Bool.eq_false_iff]
          exact fun h => hl (hr.1 h).1]
    | _ => omega
  | _ => omega
end Go.Proofs.YtlemfkbhcleopaaGreatDoor
namespace Go.Proofs.YtlemfkbhcleopaaGreatDoor
open Go Go.Kd
set_option maxRecDepth 100000

/-- one value, one tree -/
theorem TX.same {K : Cfg} {s : Gs} {w : World} (ic : IC K s w) {v : Value} {t t' : Ty} {x x' : X} (h : TX K s w v t x) (h' : TX K s w v t' x') : x = x' := by
  have no : ∀ {t : Ty} {x : X}, TX K s w v t x → isAl K.D t = false → ∃ b, v = .iface (dynX x) (pt b) ∧ s.g b = some (gk t) ∧ Root K.D t x := fun {t x} h ha => by
    have hr := exp_root (unalias_end ha) h.ex
    obtain ⟨b, h1, _, h2⟩ := h.rt.rootv ic ha (h.rd) hr
    exact ⟨b, h1, h2, hr⟩
  have dn : ∀ x : X, dynX x ≠ tAL := fun x => by
    unfold dynX
    split
    · split <;> decide
    · unfold dynK
      repeat' split
      all_goals decide
  have al : ∀ {t : Ty} {x : X}, TX K s w v t x → isAl K.D t = true → ∃ b o1 o2 o3 T c y, v = .iface tAL (pt b) ∧ Has w b (.cells #[o1, o2, o3, .iface T (pt c)] tAB) ∧ RT K s w s.sl (.iface T (pt c)) y ∧ isAl K.D y = false ∧ Rdy K K.D.length y ∧ Root K.D y x := fun {t x} h ha => by
    have hk := isAl_kind ha
    obtain ⟨h0, h1, h2⟩ := h.rd hk
    have hel := List.getElem?_eq_getElem h1
    have hal : (K.D[t.n.toNat]).al = true := by rw [← isAl_n hk hel]; exact ha
    obtain ⟨b, ob, T, c, v0, y, e, k1, k2, k3, k4, k5, k6, k7⟩ := ic.dc.al_ hel h2 hal (h.rt.nam hk)
    refine ⟨b, _, _, _, T, c, y, e, k2, k4, k5, fun hy => ?_, exp_root ?_ h.ex⟩
    · obtain ⟨q0, q1⟩ := k7 hy
      exact ⟨q0, by omega, by omega⟩
    · rw [unalias_step ic.ok.sh hk hel hal, ← k6, unalias_step ic.ok.sh (tN_kind _) (by rw [tN_n, Int.toNat_natCast]; exact hel) hal]
  cases ha : isAl K.D t with
  | false =>
    obtain ⟨b, e1, e2, e3⟩ := no h ha
    cases ha' : isAl K.D t' with
    | false =>
      obtain ⟨b', f1, f2, f3⟩ := no h' ha'
      rw [e1] at f1
      obtain rfl : b = b' := by simpa using (Value.iface.inj f1).2
      rw [e2] at f2
      exact gk_root e3 f3 (Option.some.inj f2) (fun k => (h.rd k).1) (fun k => (h'.rd k).1)
    | true =>
      obtain ⟨b', _, _, _, T, c, y, f1, _⟩ := al h' ha'
      rw [e1] at f1
      exact absurd (Value.iface.inj f1).1 (dn x)
  | true =>
    obtain ⟨b, o1, o2, o3, T, c, y, e1, e2, e3, e4, e5, e6⟩ := al h ha
    cases ha' : isAl K.D t' with
    | false =>
      obtain ⟨b', f1, _⟩ := no h' ha'
      rw [e1] at f1
      exact absurd (Value.iface.inj f1).1.symm (dn x')
    | true =>
      obtain ⟨b', p1, p2, p3, T', c', y', f1, f2, f3, f4, f5, f6⟩ := al h' ha'
      rw [e1] at f1
      cases f1
      have e := e2.at_.symm.trans f2.at_
      simp only [Option.some.injEq, Obj.cells.injEq, and_true] at e
      have e7 := congrArg Array.toList e
      simp only [List.cons.injEq, and_true] at e7
      obtain ⟨_, _, _, e8⟩ := e7
      rw [← e8] at f3
      obtain ⟨d, g1, _, g2⟩ := e3.rootv ic e4 e5 e6
      obtain ⟨d', g1', _, g2'⟩ := f3.rootv ic f4 f5 f6
      rw [g1] at g1'
      obtain rfl : d = d' := by simpa using (Value.iface.inj g1').2
      rw [g2] at g2'
      exact gk_root e6 f6 (Option.some.inj g2') (fun k => (e5 k).1) (fun k => (f5 k).1)

abbrev tTP' : Nat := 138
abbrev tTL : Nat := 207
/-- a tuple of variables of the types l -/
structure TupE (K : Cfg) (s : Gs) (w : World) (q : Value) (l : List Ty) (es : List X) (vb : Nat → Nat) (vv : Nat → Value) : Prop where
  tup : TupV w s.sl q l.length vb
  var : ∀ (i : Nat) e, l[i]? = some e → ∃ pk kd, VarV w (vb i) pk e.name (vv i) kd false
  tx : ∀ (i : Nat) e z, l[i]? = some e → es[i]? = some z → TX K s w (vv i) e z
  len : es.length = l.length
  sz : l.length ≤ 16777216
theorem RowQ.ext {w w' : World} (x : Ext w w') {p : Nat → Prop} {t : Nat} {a : Option Addr} {n : Nat} {f : Nat → Nat} (h : RowQ w p t a n f) : RowQ w' p t a n f := fun i hi => by
  obtain ⟨b, cs, h1, h2, h3, h4⟩ := h i hi
  exact ⟨b, cs, h1, h2, h3.ext' x, h4⟩
theorem TupV.ext {w w' : World} (x : Ext w w') {p : Nat → Prop} {q : Value} {n : Nat} {f : Nat → Nat} (h : TupV w p q n f) : TupV w' p q n f := by
  rcases h with h | ⟨b, a, c, h1, h2, h3, h4, h5⟩
  · exact .inl h
  · exact .inr ⟨b, a, c, h1, h2, h3, h4.ext' x, h5.ext x⟩
theorem TupE.ext {K : Cfg} {s : Gs} {w w' : World} (x : Ext w w') {q : Value} {l : List Ty} {es : List X} {vb : Nat → Nat} {vv : Nat → Value} (h : TupE K s w q l es vb vv) : TupE K s w' q l es vb vv := ⟨h.tup.ext x, fun i e he => by
  obtain ⟨pk, kd, h1⟩ := h.var i e he
  exact ⟨pk, kd, h1.ext' x⟩, fun i e z he hz => (h.tx i e z he hz).ext x, h.len, h.sz⟩
theorem c_TupLenV (q : Value) (n : Nat) (vb : Nat → Nat) (p : Nat → Prop) (w : World) (h : TupV w p q n vb) : Calls Tryz.prog 122 #[q] w (Ret fun r w' => r = .int .i64 n ∧ w = w') := by
  rcases h with ⟨rfl, rfl⟩ | ⟨b, a, c, rfl, _, _, h, _⟩
  · refine W.enter (args := [.pointer none]) Tryz.func122 rfl Tryz.ntmps122 rfl rfl ?_
    refine zst ?_
    exact fin1 (.inl rfl) rfl rfl ⟨rfl, rfl⟩
  · refine W.enter (args := [pt b]) Tryz.func122 rfl Tryz.ntmps122 rfl rfl ?_
    refine zst ?_
    exact fin1 (.inl rfl) rfl rfl ⟨rfl, rfl⟩
end Go.Proofs.YtlemfkbhcleopaaGreatDoor
namespace Go.Proofs.YtlemfkbhcleopaaGreatDoor
open Go Go.Kd
set_option maxRecDepth 100000

theorem TupV.ptr {w : World} {p : Nat → Prop} {q : Value} {n : Nat} {vb : Nat → Nat} (h : TupV w p q n vb) : ∃ oa, q = .pointer oa ∧ ∀ c, oa = some c → Pl w c.block := by
  rcases h with ⟨rfl, _⟩ | ⟨b, a, c, rfl, _, _, h, _⟩
  · exact ⟨none, rfl, fun c hc => by cases hc⟩
  · exact ⟨_, rfl, fun c hc => by cases hc; exact ⟨_, _, h.at_⟩⟩
theorem tup_same {K : Cfg} {s : Gs} {w : World} {ign : Bool} (ic : IC K s w) {q : Value} {l1 l2 : List Ty} {es1 es2 : List X} {vb1 vb2 : Nat → Nat} {vv1 vv2 : Nat → Value} (h1 : TupE K s w q l1 es1 vb1 vv1) (h2 : TupE K s w q l2 es2 vb2 vv2) : idL (!ign) es1 es2 = true := by
  have key : l1.length = l2.length ∧ ∀ i, i < l1.length → vb1 i = vb2 i := by
    rcases h1.tup with ⟨rfl, e1⟩ | ⟨b, a, c, rfl, n1, _, m1, r1⟩
    · rcases h2.tup with ⟨_, e2⟩ | ⟨b, a, c, e, _⟩
      · exact ⟨by omega, fun i hi => by omega⟩
      · cases e
    · rcases h2.tup with ⟨e, _⟩ | ⟨b', a', c', e, n2, _, m2, r2⟩
      · cases e
      · cases e
        have e := m1.at_.symm.trans m2.at_
        simp only [Option.some.injEq, Obj.cells.injEq, and_true] at e
        have e7 := congrArg Array.toList e
        simp only [List.cons.injEq, and_true, Value.slice.injEq] at e7
        obtain ⟨rfl, e8, _⟩ := e7
        refine ⟨e8, fun i hi => ?_⟩
        obtain ⟨g, cs, rfl, _, k1, k2⟩ := r1 i hi
        obtain ⟨g', cs', e9, _, k3, k4⟩ := r2 i (by omega)
        cases e9
        have e := k1.at_.symm.trans k3.at_
        simp only [Option.some.injEq, Obj.cells.injEq, and_true] at e
        subst e
        rw [k2] at k4
        simpa using k4
  rw [idL_iff]
  refine ⟨by rw [h1.len, h2.len, key.1], fun i z z' hz hz' => ?_⟩
  have hl := (List.getElem?_eq_some_iff.1 hz).1
  have hi : i < l1.length := by rw [← h1.len]; exact hl
  have he1 : l1[i]? = some l1[i] := List.getElem?_eq_getElem hi
  have he2 : l2[i]? = some (l2[i]'(by rw [← key.1]; exact hi)) := List.getElem?_eq_getElem _
  obtain ⟨pk1, kd1, v1⟩ := h1.var i _ he1
  obtain ⟨pk2, kd2, v2⟩ := h2.var i _ he2
  rw [key.2 i hi] at v1
  have e := v1.at_.symm.trans v2.at_
  simp only [Option.some.injEq, Obj.cells.injEq, and_true] at e
  have e7 := congrArg Array.toList e
  simp only [List.cons.injEq, and_true, true_and] at e7
  have hv : vv1 i = vv2 i := e7.2.2.1
  have t1 := h1.tx i _ z he1 hz
  have t2 := h2.tx i _ z' he2 hz'
  rw [hv] at t1
  have hzz := t1.same ic t2
  subst hzz
  exact idX_refl _ _ (t1.rt.wfx ic z _ _ t1.rd t1.gd t1.ex)
set_option maxHeartbeats 8000000 in
theorem c_idTup {K : Cfg} {s : Gs} {w : World} {cb : Nat} {ign : Bool} {q1 q2 : Value} {l1 l2 : List Ty} {es1 es2 : List X} {vb1 vb2 : Nat → Nat} {vv1 vv2 : Nat → Value} {a : Option Addr} (ih : ∀ z ∈ es1, IdG K s cb ign z) (ic : IC K s w) (hcb : Has w cb (.cells (cmc ign) tCM)) (h1 : TupE K s w q1 l1 es1 vb1 vv1) (h2 : TupE K s w q2 l2 es2 vb2 vv2) (hst : Stk K s w (dXs es1) (dXs es2) a) :
    Calls Tryz.prog 80 #[pt cb, .iface tTP' q1, .iface tTP' q2, .pointer a] w (Ret fun r w' => r = .bool (idL (!ign) es1 es2) ∧ Ext w w') := by
  obtain ⟨oa, ha, pa⟩ := h1.tup.ptr
  obtain ⟨ob, hb, pb⟩ := h2.tup.ptr
  subst ha hb
  refine W.enter (args := [pt cb, .iface tTP' (.pointer oa), .iface tTP' (.pointer ob), .pointer a]) Tryz.func80 rfl Tryz.ntmps80 rfl rfl ?_
  refine zst ?_
  refine WU.stp rfl rfl rfl (stp_call rfl (c_Unalias_no tTP' (.pointer oa) w rfl)) ?_
  rintro _ _ ⟨rfl, rfl⟩
  refine zst ?_
  refine WU.stp rfl rfl rfl (stp_call rfl (c_Unalias_no tTP' (.pointer ob) w rfl)) ?_
  rintro _ _ ⟨rfl, rfl⟩
  refine zst ?_
  refine WU.yld rfl rfl rfl (yld_eql_ifo (fun _ => inferInstance) (fun _ => inferInstance) rfl rfl pa pb) ?_
  by_cases heq : tTP' = tTP' ∧ oa = ob
  · rw [decide_eq_true heq]
    obtain ⟨_, rfl⟩ := heq
    refine zst ?_
    exact fin1 (.inl rfl) rfl rfl ⟨by rw [tup_same ic h1 h2], Ext.rfl' _⟩
  · rw [decide_eq_false heq]
    refine zst ?_
    refine WU.stp rfl rfl rfl (stp_call rfl (c_TupLenV (.pointer oa) l1.length vb1 _ w h1.tup)) ?_
    rintro _ _ ⟨rfl, rfl⟩
    refine zst ?_
    refine WU.stp rfl rfl rfl (stp_call rfl (c_TupLenV (.pointer ob) l2.length vb2 _ w h2.tup)) ?_
    rintro _ _ ⟨rfl, rfl⟩
    refine zst ?_
    by_cases hl : l1.length = l2.length
    · rw [show ((l1.length : Int) == (l2.length : Int)) = true by rw [hl]; exact beq_self_eq_true _]
      have hle : es1.length = es2.length := by rw [h1.len, h2.len, hl]
      have hsz := h1.sz
      refine zst ?_
      rcases h1.tup with ⟨e, n1⟩ | ⟨b1, a1, c1, e, n1, _, m1, r1⟩
      · cases e
        refine zst ?_
        refine fin1 (.inl rfl) rfl rfl ⟨?_, Ext.rfl' _⟩
        rw [show idL (!ign) es1 es2 = true from (idL_iff _ _ _).2 ⟨hle, fun i z z' hz _ => by
          have := (List.getElem?_eq_some_iff.1 hz).1
          rw [h1.len, n1] at this
          omega⟩]
      · cases e
        obtain ⟨b2, a2, c2, e, _, _, m2, r2⟩ := h2.tup.resolve_left fun k => by omega
        cases e
        refine zst ?_
        refine W.loop (σ := Nat) (fun k => [(303, .int .i64 k), (302, .int .i64 l1.length), (301, .slice a1 l1.length c1), (28, pt b2), (3, .pointer a), (0, pt cb)])
          (fun k D' wk => D' = [] ∧ k ≤ l1.length ∧ Ext w wk ∧ ∀ (i : Nat) z z', i < k → es1[i]? = some z → es2[i]? = some z' → idX (!ign) z z' = true)
          (fun k => l1.length - k) 0 ⟨rfl, Nat.zero_le _, Ext.rfl' _, fun i _ _ h => by omega⟩ (by exact sub_of ⟨rfl, rfl, rfl, rfl, rfl, rfl, trivial⟩) ?_
        rintro k D' wk ⟨rfl, hk, xk, hI⟩
        refine zst ?_
        by_cases hlt : k < l1.length
        · rw [show decide ((k : Int) < (l1.length : Int)) = true by simpa using hlt]
          have hk1 : k < es1.length := by rw [h1.len]; exact hlt
          have hk2 : k < es2.length := by omega
          have hz1 : es1[k]? = some es1[k] := List.getElem?_eq_getElem hk1
          have hz2 : es2[k]? = some es2[k] := List.getElem?_eq_getElem hk2
          have he1 : l1[k]? = some l1[k] := List.getElem?_eq_getElem hlt
          have he2 : l2[k]? = some l2[k] := List.getElem?_eq_getElem (by omega)
          generalize l1[k] = e1 at he1
          generalize l2[k] = e2 at he2
          generalize es1[k] = z1 at hz1
          generalize es2[k] = z2 at hz2
          obtain ⟨rb1, rfl, _, hrc1⟩ := r1.cell hlt
          obtain ⟨rb2, rfl, _, hrc2⟩ := r2.cell (i := k) (by omega)
          obtain ⟨pk1, kd1, fv1⟩ := h1.var k e1 he1
          obtain ⟨pk2, kd2, fv2⟩ := h2.var k e2 he2
          have fv1k : Has wk (vb1 k) (.cells #[.int .i64 0, pk1, .string e1.name, vv1 k, .int .u8 kd1, .bool false] 201) := fv1.ext' xk
          have fv2k : Has wk (vb2 k) (.cells #[.int .i64 0, pk2, .string e2.name, vv2 k, .int .u8 kd2, .bool false] 201) := fv2.ext' xk
          have m2k := m2.ext' xk
          refine zst ?_
          refine WU.yld rfl rfl rfl (yld_load_c rfl (xk.cell hrc1)) ?_
          refine zst ?_
          refine WU.yld rfl rfl rfl (yld_load_c rfl (xk.cell hrc2)) ?_
          refine zst ?_
          refine W.regD [(0, .q), (1, .q), (2, .q), (3, .q), (4, .q), (5, .q), (6, .q), (7, .q), (8, .q), (9, .q), (10, .q), (11, .q), (12, .l), (13, .q)] (by kernel_rfl) (by kernel_rfl) rfl ?_
          intro w1 x1 _
          have x01 := xk.trans x1
          have fv1' := fv1k.ext' x1
          have fv2' := fv2k.ext' x1
          refine zsd ?_
          refine WD.stp rfl rfl rfl rfl (stp_call rfl (ih z1 (List.mem_of_getElem? hz1) w1 (vv1 k) (vv2 k) e1 e2 z2 a (ic.ext x01) (hcb.ext' x01) ((h1.tx k e1 z1 he1 hz1).ext x01) ((h2.tx k e2 z2 he2 hz2).ext x01) ((hst.ext x01).le (dXs_at hz1) (dXs_at hz2)))) ?_
          rintro _ w2 ⟨rfl, x2⟩
          refine ⟨x2, ?_⟩
          have x02 := x01.trans x2
          cases hi : idX (!ign) z1 z2
          · refine zsd ?_
            refine zst ?_
            refine fin1 (.inl rfl) rfl rfl ⟨?_, x02⟩
            rw [show idL (!ign) es1 es2 = false from by
              rw [Bool.eq_false_iff]
              intro h
              have := ((idL_iff _ _ _).1 h).2 k z1 z2 hz1 hz2
              rw [hi] at this
              cases this]
          · refine zsd ?_
            refine zst ?_
            refine ⟨k + 1, by omega, ⟨rfl, by omega, x02, fun i z z' hik h3 h4 => ?_⟩, sub_of ⟨rfl, rfl, rfl, rfl, rfl, rfl, trivial⟩⟩
            by_cases hik' : i = k
            · subst hik'
              rw [hz1] at h3
              rw [hz2] at h4
              cases h3
              cases h4
              exact hi
            · exact hI i z z' (by omega) h3 h4
        · rw [show decide ((k : Int) < (l1.length : Int)) = false by simpa using hlt]
          refine zst ?_
          refine fin1 (.inl rfl) rfl rfl ⟨?_, xk⟩
          rw [show idL (!ign) es1 es2 = true from (idL_iff _ _ _).2 ⟨hle, fun i z z' h3 h4 => hI i z z' (by have := (List.getElem?_eq_some_iff.1 h3).1; rw [h1.len] at this; omega) h3 h4⟩]
    · rw [show ((l1.length : Int) == (l2.length : Int)) = false by rw [beq_eq_false_iff_ne]; omega]
      refine zst ?_
      refine fin1 (.inl rfl) rfl rfl ⟨?_, Ext.rfl' _⟩
      rw [show idL (!ign) es1 es2 = false from by
        rw [Bool.eq_false_iff]
        exact fun h => hl (by have := ((idL_iff _ _ _).1 h).1; rw [h1.len, h2.len] at this; exact this)]
end Go.Proofs.YtlemfkbhcleopaaGreatDoor
namespace Go.Proofs.YtlemfkbhcleopaaGreatDoor
open Go Go.Kd
set_option maxRecDepth 100000

theorem idX_func {tags : Bool} {t1 t2 : Ty} {es1 es2 : List X} (k1 : t1.kind = 8) (k2 : t2.kind = 8) (l1 : es1.length = t1.elems.length) (l2 : es2.length = t2.elems.length) (p1 : 0 ≤ t1.count) (p2 : 0 ≤ t2.count) (q1 : t1.count ≤ t1.elems.length) (q2 : t2.count ≤ t2.elems.length) :
    idX tags (.node t1.kind (nN t1) (cN t1) (vN t1) (anN t1) es1) (.node t2.kind (nN t2) (cN t2) (vN t2) (anN t2) es2) = (t1.vr == t2.vr && (idL tags (es1.take t1.count.toNat) (es2.take t2.count.toNat) && idL tags (es1.drop t1.count.toNat) (es2.drop t2.count.toNat))) := by
  rw [Bool.eq_iff_iff, idX_node]
  unfold nN cN vN anN
  simp only [k1, k2, beq_self_eq_true, Bool.true_and, if_true, show ¬ (8 : Int) = 9 from by decide, show ¬ ((8 : Int) = 4 ∨ (8 : Int) = 6) from by decide, show ¬ (8 : Int) = 7 from by decide, if_false, Bool.and_eq_true, beq_iff_eq, idL_iff, List.length_take, List.length_drop, sameAn, and_true]
  constructor
  · rintro ⟨⟨h1, h2⟩, h3, h4⟩
    rw [← h1]
    refine ⟨h2, ⟨by omega, fun i x y hx hy => ?_⟩, by omega, fun i x y hx hy => ?_⟩
    · rw [List.getElem?_take] at hx hy
      split at hx
      · rename_i hlt
        rw [if_pos hlt] at hy
        exact h4 i x y hx hy
      · cases hx
    · rw [List.getElem?_drop] at hx hy
      exact h4 _ x y hx hy
  · rintro ⟨h2, ⟨h3, h4⟩, h5, h6⟩
    have hc : t1.count = t2.count := by omega
    refine ⟨⟨hc, h2⟩, by omega, fun i x y hx hy => ?_⟩
    by_cases hi : i < t1.count.toNat
    · exact h4 i x y (by rw [List.getElem?_take, if_pos hi]; exact hx) (by rw [List.getElem?_take, if_pos (by omega)]; exact hy)
    · exact h6 (i - t1.count.toNat) x y (by rw [List.getElem?_drop, show t1.count.toNat + (i - t1.count.toNat) = i by omega]; exact hx) (by rw [List.getElem?_drop, show t2.count.toNat + (i - t1.count.toNat) = i by omega]; exact hy)
theorem dXs_take : ∀ (l : List X) (n : Nat), dXs (l.take n) ≤ dXs l
  | [], n => by simp
  | x :: r, 0 => by simp [dXs]
  | x :: r, n + 1 => by
    have := dXs_take r n
    simp only [List.take_succ_cons, dXs]
    omega
theorem dXs_drop : ∀ (l : List X) (n : Nat), dXs (l.drop n) ≤ dXs l
  | [], n => by simp
  | x :: r, 0 => by simp
  | x :: r, n + 1 => by
    have := dXs_drop r n
    simp only [List.drop_succ_cons, dXs]
    omega
/-- the two tuples of a function type -/
theorem RX.func {K : Cfg} {s : Gs} {w : World} {v : Value} {t : Ty} {x : X} (h : RX K s w v t x) (ic : IC K s w) (k : t.kind = 8) : ∃ b ps rs es vb vv, v = .iface tSP (pt b) ∧ SigB w b ps rs t.vr ∧ x = .node t.kind (nN t) (cN t) (vN t) (anN t) es ∧ es.length = t.elems.length ∧ 0 ≤ t.count ∧ t.count ≤ t.elems.length ∧
    TupE K s w ps (t.elems.take t.count.toNat) (es.take t.count.toNat) vb vv ∧ TupE K s w rs (t.elems.drop t.count.toNat) (es.drop t.count.toNat) (fun i => vb (t.count.toNat + i)) (fun i => vv (t.count.toNat + i)) := by
  obtain ⟨es, ex, hl, hx⟩ := h.ro.plain_of (by omega) (by omega)
  have gd := h.good (by omega)
  have lg := h.legal (by omega)
  obtain ⟨i, v', _, q⟩ := gd.sh
  have c0 := q.shape.c0 (.inl k)
  have c1 := q.shape.c1 (.inl k)
  have hsz : t.elems.length ≤ 16777216 := by
    have h1 : ∀ l : List Ty, l.length ≤ wts l := fun l => by
      induction l with
      | nil => exact Nat.zero_le _
      | cons e r ih =>
        have := wt_pos e
        simp only [List.length_cons, wts]
        omega
    have := h1 t.elems
    have := wt_eq t
    have := gd.wt
    omega
  have rt := h.rt
  cases rt with
  | func _ b ps rs vb vv _ r f _ m tp tr g =>
    have lt : (t.elems.take t.count.toNat).length = t.count.toNat := by rw [List.length_take]; omega
    have ld : (t.elems.drop t.count.toNat).length = t.elems.length - t.count.toNat := List.length_drop ..
    refine ⟨b, ps, rs, es, vb, vv, rfl, m, ex, hl, c0, c1, ⟨by rw [lt]; exact tp, fun i e he => ?_, fun i e z he hz => ?_, by rw [List.length_take, List.length_take, hl], by omega⟩, ⟨by rw [ld]; exact tr, fun i e he => ?_, fun i e z he hz => ?_, by rw [List.length_drop, List.length_drop, hl], by omega⟩⟩
    · rw [List.getElem?_take] at he
      split at he
      · obtain ⟨pk, kd, _, q⟩ := f i e he
        exact ⟨pk, kd, q⟩
      · cases he
    · rw [List.getElem?_take] at he hz
      split at he
      · rename_i hlt
        rw [if_pos hlt] at hz
        exact .of ic (r i e he) (gd.el he) (lg.el i e he) (hx i e z he hz)
      · cases he
    · rw [List.getElem?_drop] at he
      obtain ⟨pk, kd, _, q⟩ := f _ e he
      exact ⟨pk, kd, q⟩
    · rw [List.getElem?_drop] at he hz
      exact .of ic (r _ e he) (gd.el he) (lg.el _ e he) (hx _ e z he hz)
  | _ => omega
set_option maxHeartbeats 2000000 in
theorem id_func {K : Cfg} {s : Gs} {w : World} {cb : Nat} {ign : Bool} {x y : X} {vx vy : Value} {t1 t2 : Ty} {a : Option Addr} (ih : ∀ z, dX z < dX x → IdG K s cb ign z) (ic : IC K s w) (hcb : Has w cb (.cells (cmc ign) tCM)) (hx : RX K s w vx t1 x) (hy : RX K s w vy t2 y) (hst : Stk K s w (dX x) (dX y) a) (k1 : t1.kind = 8) (k2 : t2.kind = 8) : IdT w cb vx vy a (idX (!ign) x y) := by
  obtain ⟨b1, ps1, rs1, es1, vb1, vv1, rfl, m1, ex1, l1, p1, q1, tp1, tr1⟩ := hx.func ic k1
  obtain ⟨b2, ps2, rs2, es2, vb2, vv2, rfl, m2, ex2, l2, p2, q2, tp2, tr2⟩ := hy.func ic k2
  have hr := idX_func (tags := !ign) k1 k2 l1 l2 p1 p2 q1 q2
  rw [← ex1, ← ex2] at hr
  rw [hr]
  have d1 : dX x = dXs es1 + 1 := by rw [ex1]; simp only [dX]
  have d2 : dX y = dXs es2 + 1 := by rw [ex2]; simp only [dX]
  have mem : ∀ z ∈ es1, dX z < dX x := fun z hz => by
    obtain ⟨i, hi⟩ := List.getElem?_of_mem hz
    rw [ex1]; exact dX_at hi
  have a1 := dXs_take es1 t1.count.toNat
  have a2 := dXs_take es2 t2.count.toNat
  have a3 := dXs_drop es1 t1.count.toNat
  have a4 := dXs_drop es2 t2.count.toNat
  obtain ⟨rc1, m1⟩ := m1
  obtain ⟨rc2, m2⟩ := m2
  refine ⟨_, rfl, ?_⟩
  refine zst ?_
  refine W.regD [(0, .q), (1, .q), (2, .q), (3, .q), (4, .q), (5, .q), (6, .q), (7, .q), (8, .q), (9, .q), (10, .q), (11, .q), (12, .q), (13, .q), (14, .q), (15, .q), (16, .q), (17, .q), (18, .q), (19, .l), (20, .q), (21, .q), (22, .q), (23, .q), (24, .q), (25, .q), (26, .q), (27, .q), (28, .q), (29, .q), (30, .q), (31, .l), (32, .q), (33, .q)] (by kernel_rfl) (by kernel_rfl) rfl ?_
  intro w1 x1 _
  have m1' := m1.ext' x1
  have m2' := m2.ext' x1
  refine zsd ?_
  cases hv : t1.vr == t2.vr
  · refine zsd ?_
    refine zst ?_
    exact fin1 (.inl rfl) rfl rfl ⟨rfl, x1⟩
  · refine zsd ?_
    refine WD.stp rfl rfl rfl rfl (stp_call rfl (c_idTup (fun z hz => ih z (mem z (List.mem_of_mem_take hz))) (ic.ext x1) (hcb.ext' x1) (tp1.ext x1) (tp2.ext x1) ((hst.ext x1).le (by omega) (by omega)))) ?_
    rintro _ w2 ⟨rfl, x2⟩
    refine ⟨x2, ?_⟩
    have x12 := x1.trans x2
    have m1'' := m1'.ext' x2
    have m2'' := m2'.ext' x2
    cases hp : idL (!ign) (es1.take t1.count.toNat) (es2.take t2.count.toNat)
    · refine zsd ?_
      refine zst ?_
      exact fin1 (.inl rfl) rfl rfl ⟨rfl, x12⟩
    · refine zsd ?_
      refine WD.stp rfl rfl rfl rfl (stp_call rfl (c_idTup (fun z hz => ih z (mem z (List.mem_of_mem_drop hz))) (ic.ext x12) (hcb.ext' x12) (tr1.ext x12) (tr2.ext x12) ((hst.ext x12).le (by omega) (by omega)))) ?_
      rintro _ w3 ⟨rfl, x3⟩
      refine ⟨x3, ?_⟩
      refine zsd ?_
      refine zst ?_
      exact fin1 (.inl rfl) rfl rfl ⟨rfl, x12.trans x3⟩
end Go.Proofs.YtlemfkbhcleopaaGreatDoor
namespace Go.Proofs.YtlemfkbhcleopaaGreatDoor
open Go Go.Kd
set_option maxRecDepth 100000

inductive StkN (K : Cfg) (s : Gs) (w : World) (dx dy : Nat) : Nat → Option Addr → Prop
  | nil : StkN K s w dx dy 0 none
  | cons (n p xb yb : Nat) (a : Option Addr) (ux uy : Ty) (x y : X) : Has w p (.cells (prc xb yb a) tPR) → Pl w xb → Pl w yb → s.g xb = some ux → s.g yb = some uy → Root K.D ux x → Root K.D uy y → dx < dX x → dy < dX y → StkN K s w dx dy n a → StkN K s w dx dy (n + 1) (some ⟨p, 0, none⟩)
theorem Stk.num {K : Cfg} {s : Gs} {w : World} {dx dy : Nat} {a : Option Addr} (h : Stk K s w dx dy a) : ∃ n, StkN K s w dx dy n a := by
  induction h with
  | nil => exact ⟨0, .nil⟩
  | cons p xb yb a ux uy x y h1 h2 h3 h4 h5 h6 h7 h8 h9 _ ih =>
    obtain ⟨n, hn⟩ := ih
    exact ⟨n + 1, .cons n p xb yb a ux uy x y h1 h2 h3 h4 h5 h6 h7 h8 h9 hn⟩
theorem StkN.ext {K : Cfg} {s : Gs} {w w' : World} (e : Ext w w') {dx dy n : Nat} {a : Option Addr} (h : StkN K s w dx dy n a) : StkN K s w' dx dy n a := by
  induction h with
  | nil => exact .nil
  | cons n p xb yb a ux uy x y h1 h2 h3 h4 h5 h6 h7 h8 h9 _ ih => exact .cons n p xb yb a ux uy x y (h1.ext' e) (h2.ext' e) (h3.ext' e) h4 h5 h6 h7 h8 h9 ih
theorem MthO.ext {K : Cfg} {s : Gs} {w w' : World} (e : Ext w w') {p : Nat → Prop} {m : Mt} {fb : Nat} (h : MthO K s w p m fb) : MthO K s w' p m fb := h.tr (.sta (l := 0) (.of_ext e) (by omega) p)
/-- what lies behind an interface -/
structure IfX (K : Cfg) (s : Gs) (w : World) (b : Nat) (x : X) (tb : Nat) (ms : List Mt) (fb : Nat → Nat) (ms0 : List Mt) (es : List X) : Prop where
  pl : Pl w b
  ib : IfT w b (pt tb)
  tsb : ∃ a c v, Has w tb (.cells #[.bool false, .slice a ms.length c, v, .bool false] tTS) ∧ AllQ w all' v ∧ RowQ w all' tFN a ms.length fb
  mth : ∀ (i : Nat) m, ms[i]? = some m → MthO K s w s.sl m (fb i)
  srt : Srtd ms
  pm : ms.Perm ms0
  ex : x = .node 9 0 0 false (anM ms0) es
  len : es.length = ms0.length
  tr : ∀ (i : Nat) m z, ms0[i]? = some m → es[i]? = some z → Exp K.D m.fn z
  gd : ∀ m ∈ ms0, Good K.D m.fn
  lg : ∀ m ∈ ms0, Legal K.D m.fn
  sz : ms.length ≤ 100000000
theorem RX.ifc {K : Cfg} {s : Gs} {w : World} (ic : IC K s w) {v : Value} {t : Ty} {x : X} (h : RX K s w v t x) (hi : isIf t) : ∃ b tb ms fb ms0 es, v = .iface tPI (pt b) ∧ s.g b = some t ∧ IfX K s w b x tb ms fb ms0 es := by
  obtain ⟨b, h1, h2, h3⟩ := h.rt.lit2 hi.lit
  rw [hi.dyn] at h1
  obtain ⟨tb, ms, fb, ht⟩ := ic.ts h3 hi
  obtain ⟨ms0, hm, hp⟩ := ht.im
  have hmN := hm.under hi.under_norm
  cases h.ro with
  | basic n k0 _ k1 => rcases hi with k | ⟨_, k⟩ <;> first | omega | exact absurd k k1
  | error k0 k1 => rcases hi with k | ⟨_, k⟩ <;> omega
  | named k0 => rcases hi with k | ⟨k, _⟩ <;> omega
  | plain es k2 k8 => rcases hi with k | ⟨k, _⟩ <;> omega
  | iface ms' es _ km kl ke =>
    obtain rfl := IM.det hm km
    exact ⟨b, tb, ms, fb, _, es, h1, h3, h2, ht.ib, ht.tsb, ht.mth, ht.srt, hp, rfl, kl, ke, IM_good ic.ok hmN h.gd, legal_IM ic.vd ic.ok hmN h.gd h.lg, by
      obtain ⟨i, v', q1, q2⟩ := h.gd.sh
      have h4 := IM_len ic.ok.sh hmN q1 q2
      have h5 := h.gd.wt
      have h6 := ic.ok.wt
      have h7 := hp.length_eq
      omega⟩
set_option maxHeartbeats 8000000 in
theorem id_iface {K : Cfg} {s : Gs} {w : World} {cb : Nat} {ign : Bool} {x y : X} {vx vy : Value} {t1 t2 : Ty} {a : Option Addr} (ih : ∀ z, dX z < dX x → IdG K s cb ign z) (ic : IC K s w) (hcb : Has w cb (.cells (cmc ign) tCM)) (hx : RX K s w vx t1 x) (hy : RX K s w vy t2 y) (hst : Stk K s w (dX x) (dX y) a) (k1 : isIf t1) (k2 : isIf t2) : IdT w cb vx vy a (idX (!ign) x y) := by
  obtain ⟨b1, tb1, ms1, fb1, ms01, es1, rfl, g1, f1⟩ := hx.ifc ic k1
  obtain ⟨b2, tb2, ms2, fb2, ms02, es2, rfl, g2, f2⟩ := hy.ifc ic k2
  have hr := idX_iface (tags := !ign) f1.len f2.len f1.tr f2.tr f1.pm f2.pm f1.srt f2.srt
  rw [← f1.ex, ← f2.ex] at hr
  obtain ⟨sa1, sc1, sv1, ht1, ha1, hr1⟩ := f1.tsb
  obtain ⟨sa2, sc2, sv2, ht2, ha2, hr2⟩ := f2.tsb
  refine ⟨_, rfl, ?_⟩
  refine zst ?_
  refine WU.stp rfl rfl rfl (stp_call rfl (c_typeSet_done b1 tb1 w f1.ib)) ?_
  rintro _ _ ⟨rfl, rfl⟩
  refine zst ?_
  refine WU.stp rfl rfl rfl (stp_call rfl (c_typeSet_done b2 tb2 w f2.ib)) ?_
  rintro _ _ ⟨rfl, rfl⟩
  refine zst ?_
  refine W.regD [(0, .q), (1, .q), (2, .q), (3, .q), (4, .q), (5, .q), (6, .q), (7, .q), (8, .q)] (by kernel_rfl) (by kernel_rfl) rfl ?_
  intro w1 x1 _
  have ht1a := ht1.ext' x1
  have ht2a := ht2.ext' x1
  refine zsd ?_
  refine zst ?_
  refine W.regD [(0, .q), (1, .q), (2, .q), (3, .q), (4, .q), (5, .q), (6, .q), (7, .q), (8, .l), (9, .q)] (by kernel_rfl) (by kernel_rfl) rfl ?_
  intro w2 x2 _
  have x02 := x1.trans x2
  have ht1b := ht1.ext' x02
  have ht2b := ht2.ext' x02
  refine zsd ?_
  refine WD.stp rfl rfl rfl rfl (stp_call rfl (c_equal sv1 sv2 w2 (ha1.all.ext x02) (ha2.all.ext x02))) ?_
  rintro _ _ ⟨rfl, rfl⟩
  refine ⟨Ext.rfl' _, ?_⟩
  refine zsd ?_
  refine zst ?_
  have hsz1 := f1.sz
  have hsz2 := f2.sz
  by_cases hl : ms1.length = ms2.length
  · rw [show ((ms1.length : Int) == (ms2.length : Int)) = true by rw [hl]; exact beq_self_eq_true _]
    refine zst ?_
    refine WU.stp rfl rfl rfl (by first | exact stp_box rfl rfl | exact stp_box1 rfl rfl) ?_
    rintro _ w3 ⟨qb, rfl, n3⟩
    have x03 := x02.trans n3.ext
    have hq3 : Has w3 qb (.cells (prc b1 b2 a) tPR) := n3.has
    refine zst ?_
    obtain ⟨len, hsn⟩ := (hst.ext x03).num
    refine W.loop (σ := Nat × Option Addr) (fun st => [(3, .pointer st.2), (51, pt qb), (45, pt b2), (44, pt b1), (49, .slice sa1 ms1.length sc1), (50, .slice sa2 ms2.length sc2), (0, pt cb)])
      (fun st D' wk => D' = [] ∧ Ext w3 wk ∧ StkN K s wk (dX x) (dX y) st.1 st.2)
      (fun st => st.1) (len, a) ⟨rfl, Ext.rfl' _, hsn⟩ (by exact sub_of ⟨rfl, rfl, rfl, rfl, rfl, rfl, rfl, trivial⟩) ?_
    rintro ⟨n, a'⟩ D' wk ⟨rfl, xk, hn⟩
    have x0k := x03.trans xk
    have hqk := hq3.ext' xk
    cases hn with
    | cons n p xb yb a'' ux uy X Y q1 q2 q3 q4 q5 q6 q7 q8 q9 hn =>
      have hgk : ∀ {t : Ty}, isIf t → gk t = t := fun {t} hi => by unfold gk; rw [if_neg hi.lit.1, if_neg hi.lit.2]
      have hne : ¬ (xb = b1 ∧ yb = b2) := fun h => by
        rw [h.1, g1] at q4
        cases q4
        have := q6.det hx.ro
        subst this
        omega
      have hne' : ¬ (xb = b2 ∧ yb = b1) := fun h => by
        rw [h.1, g2] at q4
        cases q4
        rw [h.2, g1] at q5
        cases q5
        have e1 := q6.det hy.ro
        have e2 := q7.det hx.ro
        subst e1 e2
        omega
      refine zst ?_
      refine WU.stp rfl rfl rfl (stp_call rfl (c_pair p qb xb yb b1 b2 a'' a wk q1 hqk q2 q3 (f1.pl.ext' x0k) (f2.pl.ext' x0k) hne hne')) ?_
      rintro _ w4 ⟨rfl, x4⟩
      have q1' := q1.ext' x4
      refine zst ?_
      exact ⟨(n, a''), by show n < n + 1; omega, ⟨rfl, xk.trans x4, hn.ext x4⟩, sub_of ⟨rfl, rfl, rfl, rfl, rfl, rfl, rfl, trivial⟩⟩
    | nil =>
      refine zst ?_
      refine W.loop (σ := Nat) (fun k => [(468, .int .i64 k), (467, .int .i64 ms1.length), (466, .slice sa1 ms1.length sc1), (50, .slice sa2 ms2.length sc2), (51, pt qb), (0, pt cb)])
        (fun k D' wj => D' = [] ∧ k ≤ ms1.length ∧ Ext w wj ∧ Has wj qb (.cells (prc b1 b2 a) tPR) ∧ ∀ (i : Nat) m m', i < k → ms1[i]? = some m → ms2[i]? = some m' → keyM m = keyM m' ∧ ∀ z z', Exp K.D m.fn z → Exp K.D m'.fn z' → idX (!ign) z z' = true)
        (fun k => ms1.length - k) 0 ⟨rfl, Nat.zero_le _, x0k, hqk, fun i _ _ h => by omega⟩ (by exact sub_of ⟨rfl, rfl, rfl, rfl, rfl, rfl, trivial⟩) ?_
      rintro k D' wj ⟨rfl, hk, xj, hqj, hI⟩
      refine zst ?_
      by_cases hlt : k < ms1.length
      · rw [show decide ((k : Int) < (ms1.length : Int)) = true by simpa using hlt]
        have hm1 : ms1[k]? = some ms1[k] := List.getElem?_eq_getElem hlt
        have hm2 : ms2[k]? = some (ms2[k]'(by omega)) := List.getElem?_eq_getElem _
        generalize ms1[k] = m1 at hm1
        generalize ms2[k]'(by omega) = m2 at hm2
        obtain ⟨rb1, rfl, _, hrc1⟩ := hr1.cell hlt
        obtain ⟨rb2, rfl, _, hrc2⟩ := hr2.cell (i := k) (by omega)
        have mem1 := f1.pm.mem_iff.1 (List.mem_of_getElem? hm1)
        have mem2 := f2.pm.mem_iff.1 (List.mem_of_getElem? hm2)
        obtain ⟨i1, z1, hz1, he1⟩ := iface_trees f1.len f1.tr mem1
        obtain ⟨i2, z2, hz2, he2⟩ := iface_trees f2.len f2.tr mem2
        have d1 : dX z1 < dX x := by rw [f1.ex]; exact dX_at hz1
        have d2 : dX z2 < dX y := by rw [f2.ex]; exact dX_at hz2
        obtain ⟨pk1, sv1', ok1, _, fv1, rt1, _, id1, pq1, nz1⟩ := f1.mth k m1 hm1
        obtain ⟨pk2, sv2', ok2, _, fv2, rt2, _, id2, pq2, nz2⟩ := f2.mth k m2 hm2
        have fv1k : FuncV wj (fb1 k) pk1 m1.name sv1' := fv1.ext' xj
        have fv2k : FuncV wj (fb2 k) pk2 m2.name sv2' := fv2.ext' xj
        have hfail : ¬ (keyM m1 = keyM m2 ∧ idX (!ign) z1 z2 = true) → idX (!ign) x y = false := fun hn => by
          rw [Bool.eq_false_iff]
          intro h
          obtain ⟨h1, h2⟩ := (hr.1 h).2 k m1 m2 hm1 hm2
          exact hn ⟨h1, h2 z1 z2 he1 he2⟩
        have pz : ∀ n : Int, (pth n).size = 1 := fun n => by unfold pth; split <;> rfl
        replace nz1 : m1.name.size ≤ 268435456 := nz1
        replace nz2 : m2.name.size ≤ 268435456 := nz2
        refine zst ?_
        refine WU.yld rfl rfl rfl (yld_load_c rfl (xj.cell hrc1)) ?_
        refine zst ?_
        refine WU.yld rfl rfl rfl (yld_load_c rfl (xj.cell hrc2)) ?_
        refine zst ?_
        refine W.regD [(0, .q), (1, .q), (2, .q), (4, .q), (5, .q), (6, .q), (3, .l), (7, .l), (8, .q), (9, .q), (10, .q), (11, .q), (12, .q), (13, .q), (14, .q), (15, .q), (16, .q), (17, .q), (18, .q), (19, .q), (20, .q), (21, .q), (22, .l), (23, .q), (24, .q)] (by kernel_rfl) (by kernel_rfl) rfl ?_
        intro w5 x5 _
        have x05 := xj.trans x5
        refine zsd ?_
        refine WD.stp rfl rfl rfl rfl (stp_call rfl (c_Id (fb1 k) pk1 m1.name (pth m1.pkg) sv1' w5 (ic.prp.ext x05) (FuncV.obj (fv1k.ext' x5)) (ok1.pkv (ic.pkg.ext x05) pq1) id1.asc (by rw [pz]; omega))) ?_
        rintro _ w6 ⟨⟨s1, rfl, hs1⟩, x6⟩
        refine ⟨x6, ?_⟩
        have x06 := x05.trans x6
        refine zsd ?_
        refine WD.stp rfl rfl rfl rfl (stp_call rfl (c_Id (fb2 k) pk2 m2.name (pth m2.pkg) sv2' w6 (ic.prp.ext x06) (FuncV.obj ((fv2k.ext' x5).ext' x6)) (ok2.pkv (ic.pkg.ext x06) pq2) id2.asc (by rw [pz]; omega))) ?_
        rintro _ w7 ⟨⟨s2, rfl, hs2⟩, x7⟩
        refine ⟨x7, ?_⟩
        have x07 := x06.trans x7
        have fv1' : Has w7 (fb1 k) (.cells #[.int .i64 0, pk1, .string m1.name, sv1', .bool false, .bool false] 83) := ((fv1k.ext' x5).ext' x6).ext' x7
        have fv2' : Has w7 (fb2 k) (.cells #[.int .i64 0, pk2, .string m2.name, sv2', .bool false, .bool false] 83) := ((fv2k.ext' x5).ext' x6).ext' x7
        have hq7 := ((hqj.ext' x5).ext' x6).ext' x7
        refine zsd ?_
        cases hs : (s1.toList == s2.toList)
        · refine zsd ?_
          refine zst ?_
          refine fin1 (.inl rfl) rfl rfl ⟨?_, x07⟩
          rw [hfail fun h => by
            have := (idS_key id1 id2 pq1 pq2).2 h.1
            rw [← hs1, ← hs2] at this
            rw [this] at hs
            simp at hs]
        · have hkey : keyM m1 = keyM m2 := (idS_key id1 id2 pq1 pq2).1 (by rw [← hs1, ← hs2]; simpa using hs)
          refine zsd ?_
          refine WD.stp rfl rfl rfl rfl (stp_call rfl (ih z1 d1 w7 sv1' sv2' m1.fn m2.fn z2 (some ⟨qb, 0, none⟩) (ic.ext x07) (hcb.ext' x07) ((TX.of ic rt1 (f1.gd _ mem1) (f1.lg _ mem1) he1).ext x07) ((TX.of ic rt2 (f2.gd _ mem2) (f2.lg _ mem2) he2).ext x07)
            (.cons _ _ qb b1 b2 a t1 t2 x y hq7 (f1.pl.ext' x07) (f2.pl.ext' x07) g1 g2 hx.ro hy.ro d1 d2 ((hst.ext x07).le (by omega) (by omega))))) ?_
          rintro _ w8 ⟨rfl, x8⟩
          refine ⟨x8, ?_⟩
          have x08 := x07.trans x8
          cases hi : idX (!ign) z1 z2
          · refine zsd ?_
            refine zst ?_
            refine fin1 (.inl rfl) rfl rfl ⟨?_, x08⟩
            rw [hfail fun h => by
              have := h.2
              rw [hi] at this
              cases this]
          · refine zsd ?_
            refine zst ?_
            refine ⟨k + 1, by omega, ⟨rfl, by omega, x08, hq7.ext' x8, fun i m m' hik h3 h4 => ?_⟩, sub_of ⟨rfl, rfl, rfl, rfl, rfl, rfl, trivial⟩⟩
            by_cases hik' : i = k
            · subst hik'
              rw [hm1] at h3
              rw [hm2] at h4
              cases h3
              cases h4
              exact ⟨hkey, fun z z' hz hz' => by rw [Exp.det hz he1, Exp.det hz' he2]; exact hi⟩
            · exact hI i m m' (by omega) h3 h4
      · rw [show decide ((k : Int) < (ms1.length : Int)) = false by simpa using hlt]
        refine zst ?_
        refine fin1 (.inl rfl) rfl rfl ⟨?_, xj⟩
        rw [show idX (!ign) x y = true from hr.2 ⟨hl, fun i m m' h3 h4 => hI i m m' (by have := (List.getElem?_eq_some_iff.1 h3).1; omega) h3 h4⟩]
  · rw [show ((ms1.length : Int) == (ms2.length : Int)) = false by rw [beq_eq_false_iff_ne]; omega]
    refine zst ?_
    refine fin1 (.inl rfl) rfl rfl ⟨?_, x02⟩
    rw [show idX (!ign) x y = false from by
      rw [Bool.eq_false_iff]
      exact fun h => hl (hr.1 h).1]
end Go.Proofs.YtlemfkbhcleopaaGreatDoor
namespace Go.Proofs.YtlemfkbhcleopaaGreatDoor
open Go Go.Kd
set_option maxRecDepth 100000

theorem dynX_mem (x : X) : litT (dynX x) ∨ dynX x = tNP := by
  unfold litT
  unfold dynX
  split
  · split
    · exact .inr rfl
    · exact .inl (.inl rfl)
  · unfold dynK
    repeat' split
    all_goals first
      | exact .inl (by decide)
      | exact .inr (by decide)
theorem dyn_basic {y : Ty} {n : Int} (h3 : n = (if y.n = 18 then 7 else if y.n = 19 then 4 else y.n)) (h1 : y.n ≠ 20) : dynX (.leaf 0 n) = 135 := by
  have h20 : n ≠ 20 := by
    rw [h3]
    split
    · omega
    split <;> omega
  show (if (0 : Int) = 1 ∨ n = 20 then tNP else _) = _
  rw [if_neg (by omega)]
theorem dyn_nm (n : Int) : dynX (.leaf 1 n) = tNP := by
  show (if (1 : Int) = 1 ∨ n = 20 then tNP else 135) = tNP
  rw [if_pos (.inl rfl)]
theorem dynK_ba (k : Int) : dynK k ≠ 135 := by
  unfold dynK
  repeat' split
  all_goals decide
theorem dynK_inj {k k' : Int} (h1 : 2 ≤ k) (h2 : k ≤ 8) (h3 : 2 ≤ k') (h4 : k' ≤ 8) (h : dynK k = dynK k') : k = k' := by
  rcases (show k = 2 ∨ k = 3 ∨ k = 4 ∨ k = 5 ∨ k = 6 ∨ k = 7 ∨ k = 8 by omega) with rfl | rfl | rfl | rfl | rfl | rfl | rfl <;>
  rcases (show k' = 2 ∨ k' = 3 ∨ k' = 4 ∨ k' = 5 ∨ k' = 6 ∨ k' = 7 ∨ k' = 8 by omega) with rfl | rfl | rfl | rfl | rfl | rfl | rfl <;>
  first
    | rfl
    | exact absurd h (by decide)
theorem dynK_pi {k : Int} (h1 : 2 ≤ k) (h2 : k ≤ 8) : dynK k ≠ dynK 9 := by
  rcases (show k = 2 ∨ k = 3 ∨ k = 4 ∨ k = 5 ∨ k = 6 ∨ k = 7 ∨ k = 8 by omega) with rfl | rfl | rfl | rfl | rfl | rfl | rfl <;> decide
theorem c_identical {K : Cfg} {s : Gs} {cb : Nat} {ign : Bool} : ∀ (d : Nat) (x : X), dX x < d → IdG K s cb ign x := by
  intro d
  induction d with
  | zero => intro x h; omega
  | succ d ihd =>
    intro x hd
    have ih : ∀ z, dX z < dX x → IdG K s cb ign z := fun z hz => ihd z (by omega)
    refine id_main fun w vx vy t1 t2 y a ic hcb r1 r2 hst => ?_
    by_cases he : dynX x = dynX y
    · have d9 : ∀ an es, dynX (.node 9 0 0 false an es) = tPI := fun _ _ => rfl
      have q1 := r1.ro
      have q2 := r2.ro
      cases q1 with
      | basic n h0 h1 h2 h3 =>
        have hb := dyn_basic h3 h1
        cases q2 with
        | basic n' k0 k1 k2 k3 => exact id_basic r1.rt r2.rt h0 h1 h2 h3 k0 k1 k2 k3
        | error => rw [hb] at he; exact absurd he (by decide)
        | named => rw [hb, dyn_nm] at he; exact absurd he (by decide)
        | plain => rw [hb] at he; exact absurd he.symm (dynK_ba _)
        | iface => rw [hb] at he; exact absurd he.symm (dynK_ba _)
      | error h0 h1 =>
        have hb : dynX (.leaf 0 20) = tNP := rfl
        exact id_named ic r1 r2 hb (he.symm.trans hb) (.leaf _ _)
      | named hk =>
        have hb : dynX (.leaf 1 t1.n) = tNP := dyn_nm _
        exact id_named ic r1 r2 hb (he.symm.trans hb) (.leaf _ _)
      | plain es p2 p8 pl pe =>
        have hk : t1.kind = t2.kind := by
          cases q2 with
          | basic n' k0 k1 k2 k3 => rw [dyn_basic k3 k1] at he; exact absurd he (dynK_ba _)
          | error => exact absurd he (dynK_ne _)
          | named => exact absurd (he.trans (dyn_nm _)) (dynK_ne _)
          | plain es' p2' p8' => exact dynK_inj p2 p8 p2' p8' he
          | iface => exact absurd he (dynK_pi p2 p8)
        rcases (show t1.kind = 2 ∨ t1.kind = 3 ∨ t1.kind = 4 ∨ t1.kind = 5 ∨ t1.kind = 6 ∨ t1.kind = 7 ∨ t1.kind = 8 by omega) with h | h | h | h | h | h | h
        · exact id_ptr ih ic hcb r1 r2 hst h (by omega)
        · exact id_slice ih ic hcb r1 r2 hst h (by omega)
        · exact id_array ih ic hcb r1 r2 hst h (by omega)
        · exact id_map ih ic hcb r1 r2 hst h (by omega)
        · exact id_chan ih ic hcb r1 r2 hst h (by omega)
        · exact id_struct ih ic hcb r1 r2 hst h (by omega)
        · exact id_func ih ic hcb r1 r2 hst h (by omega)
      | iface ms es hi hm hl hx =>
        have hi2 : isIf t2 := by
          cases q2 with
          | basic n' k0 k1 k2 k3 => rw [dyn_basic k3 k1] at he; exact absurd he (dynK_ba _)
          | error => exact absurd he (dynK_ne _)
          | named => exact absurd (he.trans (dyn_nm _)) (dynK_ne _)
          | plain es' p2' p8' => exact absurd he.symm (dynK_pi p2' p8')
          | iface _ _ h => exact h
        exact id_iface ih ic hcb r1 r2 hst hi hi2
    · obtain ⟨b1, e1, _, _⟩ := r1.rt.rootv ic r1.al r1.rd r1.ro
      obtain ⟨b2, e2, _, _⟩ := r2.rt.rootv ic r2.al r2.rd r2.ro
      subst e1 e2
      rw [show idX (!ign) x y = false from by
        rw [Bool.eq_false_iff]
        exact fun h => he (idX_dyn h)]
      refine id_ne (dynX_mem x) ?_ ?_
      · cases h : Nat.beq (dynX y) (dynX x)
        · rfl
        · exact absurd (Nat.eq_of_beq_eq_true h).symm he
      · rcases dynX_mem y with h | h
        · exact h.ne.1
        · rw [h]; rfl
theorem c_gIdentical {K : Cfg} {s : Gs} {w : World} {vx vy : Value} {tx ty : Ty} {x y : X} (ic : IC K s w) (hx : TX K s w vx tx x) (hy : TX K s w vy ty y) : Calls Tryz.prog 45 #[vx, vy] w (Ret fun r w' => r = .bool (idX true x y) ∧ Ext w w') := by
  refine W.enter (args := [vx, vy]) Tryz.func45 rfl Tryz.ntmps45 rfl rfl ?_
  refine zst ?_
  refine WU.stp rfl rfl rfl stp_alloc ?_
  rintro _ w1 ⟨cb, rfl, n1⟩
  have hcb : Has w1 cb (.cells (cmc false) tCM) := n1.has
  refine zst ?_
  refine WU.stp rfl rfl rfl (stp_call rfl (c_identical (K := K) (s := s) (cb := cb) (ign := false) _ x (Nat.lt_succ_self _) w1 vx vy tx ty y none (ic.ext n1.ext) hcb (hx.ext n1.ext) (hy.ext n1.ext) (.nil _ _))) ?_
  rintro _ w2 ⟨rfl, x2⟩
  refine zst ?_
  exact fin1 (.inl rfl) rfl rfl ⟨rfl, n1.ext.trans x2⟩
end Go.Proofs.YtlemfkbhcleopaaGreatDoor
namespace Go.Proofs.YtlemfkbhcleopaaGreatDoor
open Go Go.Kd
set_option maxRecDepth 100000

set_option maxHeartbeats 2000000 in
theorem c_iIdentical {D : List De} {t u : Ty} {x y : X} {a : Option Addr} {cp : Nat} {a1 a2 : Option Addr} {c1 c2 : Nat} {w : World} (hp : Prp w) (hV : ValidD D) (hT : ValidT D t) (hU : ValidT D u) (hwd : wtD D ≤ 16777216) (hwt : wt t ≤ 16777216) (hwu : wt u ≤ 16777216) (hx : Exp D t x) (hy : Exp D u y)
    (hd : DsV w (fun b => b < w.heap.size) (.slice a D.length cp) D) (ht : TysV w (fun b => b < w.heap.size) a1 c1 t.elems) (hu : TysV w (fun b => b < w.heap.size) a2 c2 u.elems) :
    Calls Tryz.prog 15 #[.slice a D.length cp, .agg (tyc t a1 c1).toArray, .agg (tyc u a2 c2).toArray] w (Ret fun r w' => r = .bool (idX true x y) ∧ WfX x ∧ WfX y ∧ Ext w w') := by
  refine W.enter (args := [.slice a D.length cp, .agg (tyc t a1 c1).toArray, .agg (tyc u a2 c2).toArray]) Tryz.func15 rfl Tryz.ntmps15 rfl rfl ?_
  refine zst ?_
  refine WU.stp rfl rfl rfl (by first | exact stp_box rfl rfl | exact stp_box1 rfl rfl) ?_
  rintro _ w1 ⟨b4, rfl, n1⟩
  refine zst ?_
  have ib4 : Has w1 b4 (.cells (tyc t a1 c1).toArray 26) := n1.has
  refine WU.stp rfl rfl rfl (by first | exact stp_box rfl rfl | exact stp_box1 rfl rfl) ?_
  rintro _ w2 ⟨b5, rfl, n2⟩
  have ib5 : Has w2 b5 (.cells (tyc u a2 c2).toArray 26) := n2.has
  have x02 := n1.ext.trans n2.ext
  have z02 := x02.size
  have jb4 := ib4.ext' n2.ext
  refine zst ?_
  refine WU.stp rfl rfl rfl (stp_call rfl (c_build' (hp.ext x02) hV hwd (hd.ext x02) fun b hb => by omega)) ?_
  rintro _ w3 ⟨K, s, bb, rfl, rfl, hKN, x3, hB⟩
  have z3 := x3.size
  refine zst ?_
  obtain ⟨F, hFd⟩ : ∃ F : World → Prop, ∀ W, F W ↔ (Has W b4 (.cells (tyc t a1 c1).toArray 26) ∧ Has W b5 (.cells (tyc u a2 c2).toArray 26)) := ⟨fun W => (Has W b4 (.cells (tyc t a1 c1).toArray 26) ∧ Has W b5 (.cells (tyc u a2 c2).toArray 26)), fun _ => Iff.rfl⟩
  refine W.regR (R := fun a b => F a → F b) (fun _ h => h) (fun _ _ _ h k x => k (h x)) [(0, .q), (1, .q), (3, .q), (4, .q), (2, .l), (5, .l), (6, .l), (7, .q)] (by kernel_rfl) (by kernel_rfl) rfl ?_
  intro w4 x4 _
  have x24 := x3.trans x4
  have hF : F w4 := (hFd _).2 ⟨jb4.ext' x24, ib5.ext' x24⟩
  have hB4 := hB.ext x4
  have z4 := x4.size
  (repeat (first
      | refine WR.nilk ?_
      | refine WR.nil ?_
      | refine WR.yld (fun _ h => h) rfl rfl rfl rfl (fun w' hx => by obtain ⟨i1, i2⟩ := (hFd _).1 (hx hF); first | exact zyl | (exact by first | exact yld_load_cells rfl (Cells.has i1) | exact yld_load_cells rfl (Cells.has i2)) | exact yld_indexAddr_arr rfl rfl (by omega)) ?_
      | refine WR.skip rfl rfl rfl rfl ?_))
  refine WR.stp rfl rfl rfl rfl (stp_call rfl (c_of hB4 (p := fun b => b < w.heap.size) (cs := tyc t a1 c1) (t := t) ((TyV.of_tys ht).ext (x02.trans x24)) (fun b hb => ⟨by omega, by omega⟩) ⟨true, hT.sh⟩ hT.lg (by show _ ≤ 268435456; omega))) ?_
  rintro _ w5 ⟨s5, hg5, st5, hB5, rt5, T5, rb5, rfl⟩
  have hF : F w5 := (hFd _).2 ⟨Has.sta st5 ((hFd _).1 hF).1, Has.sta st5 ((hFd _).1 hF).2⟩
  refine ⟨fun _ => hF, ?_⟩
  (repeat (first
      | refine WR.nilk ?_
      | refine WR.nil ?_
      | refine WR.yld (fun _ h => h) rfl rfl rfl rfl (fun w' hx => by obtain ⟨i1, i2⟩ := (hFd _).1 (hx hF); first | exact zyl | (exact by first | exact yld_load_cells rfl (Cells.has i1) | exact yld_load_cells rfl (Cells.has i2)) | exact yld_indexAddr_arr rfl rfl (by omega)) ?_
      | refine WR.skip rfl rfl rfl rfl ?_))
  have x25 : Ext w2 w5 := ext_sta x24 (by omega) st5
  have z5 := x25.size
  refine WR.stp rfl rfl rfl rfl (stp_call rfl (c_of hB5 (p := fun b => b < w.heap.size) (cs := tyc u a2 c2) (t := u) ((TyV.of_tys hu).ext (x02.trans x25)) (fun b hb => ⟨by omega, by omega⟩) ⟨true, hU.sh⟩ hU.lg (by show _ ≤ 268435456; omega))) ?_
  rintro _ w6 ⟨s6, hg6, st6, hB6, rt6, T6, rb6, rfl⟩
  have hF : F w6 := (hFd _).2 ⟨Has.sta st6 ((hFd _).1 hF).1, Has.sta st6 ((hFd _).1 hF).2⟩
  refine ⟨fun _ => hF, ?_⟩
  (repeat (first
      | refine WR.nilk ?_
      | refine WR.nil ?_
      | refine WR.yld (fun _ h => h) rfl rfl rfl rfl (fun w' hx => by obtain ⟨i1, i2⟩ := (hFd _).1 (hx hF); first | exact zyl | (exact by first | exact yld_load_cells rfl (Cells.has i1) | exact yld_load_cells rfl (Cells.has i2)) | exact yld_indexAddr_arr rfl rfl (by omega)) ?_
      | refine WR.skip rfl rfl rfl rfl ?_))
  have rt5' := RT.gle hg6 (rt5.sta st6 (by omega))
  have x26 : Ext w2 w6 := ext_sta x25 (by omega) st6
  have tx1 := TX.of hB6.ic rt5' ⟨⟨_, _, Nat.le_refl _, hT.sh⟩, hwt⟩ hT.lg hx
  have tx2 := TX.of hB6.ic rt6 ⟨⟨_, _, Nat.le_refl _, hU.sh⟩, hwu⟩ hU.lg hy
  refine WR.stp rfl rfl rfl rfl (stp_call rfl (c_gIdentical hB6.ic tx1 tx2)) ?_
  rintro _ w7 ⟨rfl, x7⟩
  have hF : F w7 := (hFd _).2 ⟨((hFd _).1 hF).1.ext' x7, ((hFd _).1 hF).2.ext' x7⟩
  refine ⟨fun _ => hF, ?_⟩
  (repeat (first
      | refine WR.nilk ?_
      | refine WR.nil ?_
      | refine WR.yld (fun _ h => h) rfl rfl rfl rfl (fun w' hx => by obtain ⟨i1, i2⟩ := (hFd _).1 (hx hF); first | exact zyl | (exact by first | exact yld_load_cells rfl (Cells.has i1) | exact yld_load_cells rfl (Cells.has i2)) | exact yld_indexAddr_arr rfl rfl (by omega)) ?_
      | refine WR.skip rfl rfl rfl rfl ?_))
  refine zst ?_
  exact fin1 (.inl rfl) rfl rfl ⟨rfl, tx1.rt.wfx hB6.ic x _ _ tx1.rd tx1.gd hx, tx2.rt.wfx hB6.ic y _ _ tx2.rd tx2.gd hy, (x02.trans x26).trans x7⟩
theorem tys_two {w : World} {t u : Ty} {a a' : Option Addr} {c c' r : Nat} (hr : Has w r (.cells (tyc t a c ++ tyc u a' c').toArray 26)) {p : Nat → Prop} (hp : p r) (ht : TysV w p a c t.elems) (hu : TysV w p a' c' u.elems) : TysV w p (some ⟨r, 0, none⟩) 2 [t, u] :=
  ⟨Nat.le_refl _, fun i => if i = 0 then tyc t a c else tyc u a' c', fun i hi => ⟨r, 0, rfl, hp, by
    have hi : i < 2 := hi
    have hc := Cells.has hr
    rcases (show i = 0 ∨ i = 1 by omega) with rfl | rfl
    · exact hc.part (k := 0 * 8) fun j v hv => by
        have hv : (tyc t a c)[j]? = some v := hv
        simp only [Nat.zero_mul, Nat.zero_add]
        rw [List.getElem?_append_left ((List.getElem?_eq_some_iff.1 hv).1)]
        exact hv
    · exact hc.part (k := 1 * 8) fun j v hv => by
        have hv : (tyc u a' c')[j]? = some v := hv
        rw [List.getElem?_append_right (by simp)]
        simpa using hv⟩, fun i e he => by
    match i with
    | 0 => simp at he; subst he; exact .of_tys ht
    | 1 => simp at he; subst he; exact .of_tys hu
    | i + 2 => simp at he⟩
end Go.Proofs.YtlemfkbhcleopaaGreatDoor

/- The plain family, part 2: mapping, step, chain; plain types as data in memory. -/
import Derived.Test.YtnmodbmaokilaaaGreatDoorP1
namespace Go.Proofs.YtnmodbmaokilaaaGreatDoor
open Go Go.Kd
set_option maxRecDepth 100000

theorem c_mapping (k n c : Int) (vr : Bool) (a : Option Addr) (l cp : Nat) (nm tg : ByteArray) (em : Bool) (k' n' c' : Int) (vr' : Bool) (a' : Option Addr) (l' cp' : Nat) (nm' tg' : ByteArray) (em' : Bool) (w : World) :
    Calls Tryz.prog 26 #[tyv k n c vr (.slice a l cp) nm tg em, tyv k' n' c' vr' (.slice a' l' cp') nm' tg' em'] w
      (Ret fun r w' => ∃ b, r = tyv 5 0 0 false (.slice (some ⟨b, 0, none⟩) 2 2) E0 E0 false ∧
        Has w' b (.cells (tyl k n c vr (.slice a l cp) E0 E0 false ++ tyl k' n' c' vr' (.slice a' l' cp') E0 E0 false).toArray 27) ∧ w.heap.size ≤ b ∧ Ext w w') := by
  refine W.enter (args := [tyv k n c vr (.slice a l cp) nm tg em, tyv k' n' c' vr' (.slice a' l' cp') nm' tg' em']) Tryz.func26 rfl Tryz.ntmps26 rfl rfl ?_
  (repeat (first
      | (guard_target =~ gW (.seq _ _); refine W.seq ?_)
      | (guard_target =~ gW (.region _ _ false); refine W.reg ?_)
      ))
  refine WU.stp rfl rfl rfl (by first | exact stp_box rfl rfl | exact stp_box1 rfl rfl) ?_
  rintro _ w1 ⟨b1, rfl, n1⟩
  refine WU.stp rfl rfl rfl (by first | exact stp_box rfl rfl | exact stp_box1 rfl rfl) ?_
  rintro _ w2 ⟨b2, rfl, n2⟩
  refine WU.stp rfl rfl rfl stp_alloc ?_
  rintro _ w3 ⟨b3, rfl, n3⟩
  have hb1 := n1.num
  have hb2 := n2.num
  have hs2 := n1.size
  have hb3 := n3.num
  have hs3 := n2.size
  (repeat (first
      | (guard_target =~ gU _; first
          | (guard_target =~ gU []; first | refine WU.nilk ?_ )
          )
      | (guard_target =~ gW (.seq _ _); refine W.seq ?_)
      ))
  refine W.regD [(0, .q), (2, .q), (1, .l), (3, .l), (4, .l), (5, .l), (6, .z)] (by kernel_rfl) (by kernel_rfl) rfl ?_
  intro w4 x4 _
  (repeat (first
      | refine WD.yld rfl rfl rfl rfl (by first | (guard_target =~ gY (.load _ _); first | exact zb rfl) ) ?_
      ))
  refine WD.stp rfl rfl rfl rfl (stp_call rfl (c_element k n c vr a l cp nm tg em w4)) ?_
  rintro _ w5 ⟨rfl, x5⟩
  refine ⟨by first | assumption | exact Ext.rfl' _ | infer_instance, ?_⟩
  refine WD.stp rfl rfl rfl rfl (stp_call rfl (c_element k' n' c' vr' a' l' cp' nm' tg' em' w5)) ?_
  rintro _ w6 ⟨rfl, x6⟩
  refine ⟨by first | assumption | exact Ext.rfl' _ | infer_instance, ?_⟩
  refine WD.stp rfl rfl rfl rfl (stp_buildSlice rfl rfl rfl rfl rfl) ?_
  rintro _ w7 ⟨b7, rfl, n7⟩
  refine ⟨n7.ext, ?_⟩
  refine WD.stp rfl rfl rfl rfl (stp_call rfl (c_of 5 0 (some ⟨b7, 0, none⟩) 2 2 w7)) ?_
  rintro _ w8 ⟨rfl, x8⟩
  refine ⟨by first | assumption | exact Ext.rfl' _ | infer_instance, ?_⟩
  have h3 := n3.has.lt
  have s4 := x4.size
  have s5 := x5.size
  have s6 := x6.size
  have hb7 := n7.num
  refine WD.last0 rfl rfl rfl (stp_store_whole rfl rfl rfl rfl) ?_
  rintro _ w9 u9
  (repeat (first
      | (guard_target =~ WD _ _ _ _ [] _ _ _; first | refine WD.nilk ?_ )
      ))
  (repeat (first
      | (guard_target =~ gW .ret; refine W.ret ?_)
      ))
  exact finc (.inl rfl) rfl rfl ⟨b7, rfl, u9.keep inferInstance (by omega), by omega, u9.ext (n1.ext.trans (n2.ext.trans (n3.ext.trans (x4.trans (x5.trans (x6.trans (n7.ext.trans x8))))))) (by omega)⟩

instance : NoG Tryz.prog 32 := ⟨by kernel_rfl⟩

def orig (n : Int) : Int := if n = 18 then 7 else if n = 19 then 4 else n
/-- what a step of chain is -/
def stA (k : Int) : Int := k % 100 % 5
def stB (k : Int) : Int := if k % 100 % 5 = 2 then k % 100 / 5 else if k % 100 % 5 = 3 then k % 100 / 5 % 3 else if k % 100 % 5 = 4 then orig (k % 100 / 5) else 0

theorem c_step (k : Int) (w : World) :
    Calls Tryz.prog 13 #[.int .i64 k] w (Ret fun r w' => r = .agg #[.int .i64 (stA k), .int .i64 (stB k)] ∧ Ext w w') := by
  refine W.enter (args := [.int .i64 k]) Tryz.func13 rfl Tryz.ntmps13 rfl rfl ?_
  (repeat (first
      | (guard_target =~ gW (.seq _ _); refine W.seq ?_)
      | (guard_target =~ gW (.region _ _ false); refine W.reg ?_)
      ))
  refine WU.stp rfl rfl rfl stp_alloc ?_
  rintro _ w1 ⟨b1, rfl, n1⟩
  (repeat (first
      | (guard_target =~ gU _; first
          | (guard_target =~ gU []; first | refine WU.nilk ?_ )
          | refine WU.yld rfl rfl rfl (by first | (guard_target =~ gY (.move _); exact ze rfl) ) ?_
          )
      | (guard_target =~ gW (.seq _ _); refine W.seq ?_)
      | (guard_target =~ gW (.region _ _ false); refine W.reg ?_)
      ))
  refine WU.stp rfl rfl rfl (stp_call rfl (c_place k 100 w1 (by omega))) ?_
  rintro _ w2 ⟨rfl, rfl⟩
  have hk : 0 ≤ k % 100 ∧ k % 100 < 100 := by omega
  generalize hq : k % 100 = q at hk
  have hA : stA k = q % 5 := by unfold stA; rw [hq]
  have hB : stB k = if q % 5 = 2 then q / 5 else if q % 5 = 3 then q / 5 % 3 else if q % 5 = 4 then orig (q / 5) else 0 := by unfold stB; rw [hq]
  rw [hA, hB]
  clear hA hB hq
  (repeat (first
      | (guard_target =~ gU _; first
          | (guard_target =~ gU []; first | refine WU.nilk ?_ )
          | refine WU.yld rfl rfl rfl (by first | (guard_target =~ gY (.move _); exact ze rfl) | (guard_target =~ gY (.assign _); exact yf rfl) ) ?_
          )
      | (guard_target =~ gW (.seq _ _); refine W.seq ?_)
      | (guard_target =~ gW (.region _ _ false); refine W.reg ?_)
      ))
  refine WU.yld rfl rfl rfl (yld_rem_in rfl rfl (by omega) (by omega)) ?_
  (repeat (first
      | (guard_target =~ gU _; first
          | (guard_target =~ gU []; first | refine WU.nilk ?_ )
          | refine WU.yld rfl rfl rfl (by first | (guard_target =~ gY (.assign _); exact yf rfl) | (guard_target =~ gY (.binOp .eql _ _ _ _); first | exact yl rfl rfl ) ) ?_
          )
      | (guard_target =~ gW (.seq _ _); refine W.seq ?_)
      | (guard_target =~ gW (.region _ _ false); refine W.reg ?_)
      | (guard_target =~ gW (.block _ _); refine W.block ?_)
      ))
  by_cases h2 : q % 5 = 2
  · rw [show (q % 5 == 2) = true by simpa using h2]
    (repeat (first
        | (guard_target =~ gU _; first
            | refine WU.yld rfl rfl rfl (by first | (guard_target =~ gY (.move _); exact ze rfl) ) ?_
            )
        | (guard_target =~ gW (.seq _ _); refine W.seq ?_)
        | (guard_target =~ gW (.region _ _ false); refine W.reg ?_)
        | (guard_target =~ gW (.cond _ _ _); first | refine W.cond_t rfl ?_ )
        ))
    refine WU.yld rfl rfl rfl (yld_quo_in rfl rfl (by omega) (by omega)) ?_
    refine WU.yld rfl rfl rfl (yld_buildArr rfl rfl) ?_
    refine WU.stp0 rfl rfl (stp_store_whole rfl rfl rfl rfl) ?_
    rintro _ w3 u3
    (repeat (first
        | (guard_target =~ gU _; first
            | (guard_target =~ gU []; first | refine WU.nilk ?_ )
            )
        | (guard_target =~ gW .ret; refine W.ret ?_)
        | (guard_target =~ gT .ret; refine thn_ret ?_)
        | (guard_target =~ gI .ret; refine inb_ret ?_)))
    exact finc (.inl rfl) rfl rfl ⟨by rw [if_pos h2, h2], (u3.ofNew n1).ext⟩
  rw [show (q % 5 == 2) = false by simpa using h2]
  (repeat (first
      | (guard_target =~ gU _; first
          | (guard_target =~ gU []; first | refine WU.nilk ?_ )
          | refine WU.yld rfl rfl rfl (by first | (guard_target =~ gY (.assign _); exact yf rfl) | (guard_target =~ gY (.binOp .eql _ _ _ _); first | exact yl rfl rfl ) ) ?_
          )
      | (guard_target =~ gW (.seq _ _); refine W.seq ?_)
      | (guard_target =~ gW (.region _ _ false); refine W.reg ?_)
      | (guard_target =~ gW (.cond _ _ _); first | refine W.cond_f rfl ?_)
      ))
  by_cases h3 : q % 5 = 3
  · rw [show (q % 5 == 3) = true by simpa using h3]
    (repeat (first
        | (guard_target =~ gU _; first
            | refine WU.yld rfl rfl rfl (by first | (guard_target =~ gY (.move _); exact ze rfl) ) ?_
            )
        | (guard_target =~ gW (.seq _ _); refine W.seq ?_)
        | (guard_target =~ gW (.region _ _ false); refine W.reg ?_)
        | (guard_target =~ gW (.cond _ _ _); first | refine W.cond_t rfl ?_ )
        ))
    refine WU.yld rfl rfl rfl (yld_quo_in rfl rfl (by omega) (by omega)) ?_
    refine WU.yld rfl rfl rfl (yld_rem_in rfl rfl (by omega) (by omega)) ?_
    refine WU.yld rfl rfl rfl (yld_buildArr rfl rfl) ?_
    refine WU.stp0 rfl rfl (stp_store_whole rfl rfl rfl rfl) ?_
    rintro _ w3 u3
    (repeat (first
        | (guard_target =~ gU _; first
            | (guard_target =~ gU []; first | refine WU.nilk ?_ )
            )
        | (guard_target =~ gW .ret; refine W.ret ?_)
        | (guard_target =~ gT .ret; refine thn_ret ?_)
        | (guard_target =~ gI .ret; refine inb_ret ?_)))
    exact finc (.inl rfl) rfl rfl ⟨by rw [if_neg h2, if_pos h3, h3], (u3.ofNew n1).ext⟩
  rw [show (q % 5 == 3) = false by simpa using h3]
  (repeat (first
      | (guard_target =~ gU _; first
          | (guard_target =~ gU []; first | refine WU.nilk ?_ )
          | refine WU.yld rfl rfl rfl (by first | (guard_target =~ gY (.assign _); exact yf rfl) | (guard_target =~ gY (.binOp .eql _ _ _ _); first | exact yl rfl rfl ) ) ?_
          )
      | (guard_target =~ gW (.seq _ _); refine W.seq ?_)
      | (guard_target =~ gW (.region _ _ false); refine W.reg ?_)
      | (guard_target =~ gW (.cond _ _ _); first | refine W.cond_f rfl ?_)
      ))
  by_cases h4 : q % 5 = 4
  · rw [show (q % 5 == 4) = true by simpa using h4]
    (repeat (first
        | (guard_target =~ gU _; first
            | refine WU.yld rfl rfl rfl (by first | (guard_target =~ gY (.move _); exact ze rfl) ) ?_
            )
        | (guard_target =~ gW (.seq _ _); refine W.seq ?_)
        | (guard_target =~ gW (.region _ _ false); refine W.reg ?_)
        | (guard_target =~ gW (.cond _ _ _); first | refine W.cond_t rfl ?_ )
        ))
    refine WU.yld rfl rfl rfl (yld_quo_in rfl rfl (by omega) (by omega)) ?_
    refine WU.stp rfl rfl rfl (stp_call rfl (c_original (q / 5) _)) ?_
    rintro _ w2 ⟨rfl, rfl⟩
    refine WU.yld rfl rfl rfl (yld_buildArr rfl rfl) ?_
    refine WU.stp0 rfl rfl (stp_store_whole rfl rfl rfl rfl) ?_
    rintro _ w3 u3
    (repeat (first
        | (guard_target =~ gU _; first
            | (guard_target =~ gU []; first | refine WU.nilk ?_ )
            )
        | (guard_target =~ gW .ret; refine W.ret ?_)
        | (guard_target =~ gT .ret; refine thn_ret ?_)
        | (guard_target =~ gI .ret; refine inb_ret ?_)))
    exact finc (.inl rfl) rfl rfl ⟨by rw [if_neg h2, if_neg h3, if_pos h4, h4]; rfl, (u3.ofNew n1).ext⟩
  rw [show (q % 5 == 4) = false by simpa using h4]
  (repeat (first
      | (guard_target =~ gU _; first
          | refine WU.yld rfl rfl rfl (by first | (guard_target =~ gY (.move _); exact ze rfl) ) ?_
          )
      | (guard_target =~ gW (.seq _ _); refine W.seq ?_)
      | (guard_target =~ gW (.region _ _ false); refine W.reg ?_)
      | (guard_target =~ gW (.cond _ _ _); first | refine W.cond_f rfl ?_)
      | (guard_target =~ gW .skip; refine W.skip ?_)
      ))
  refine WU.yld rfl rfl rfl (yld_rem_in rfl rfl (by omega) (by omega)) ?_
  refine WU.yld rfl rfl rfl (yld_buildArr rfl rfl) ?_
  refine WU.stp0 rfl rfl (stp_store_whole rfl rfl rfl rfl) ?_
  rintro _ w3 u3
  (repeat (first
      | (guard_target =~ gU _; first
          | (guard_target =~ gU []; first | refine WU.nilk ?_ )
          )
      | (guard_target =~ gW .ret; refine W.ret ?_)
      ))
  exact finc (.inl rfl) rfl rfl ⟨by rw [if_neg h2, if_neg h3, if_neg h4], (u3.ofNew n1).ext⟩

/-- A plain type, as data. -/
inductive PT where
  | basic (n : Int)
  | ptr (t : PT)
  | slice (t : PT)
  | array (n : Int) (t : PT)
  | chan (d : Int) (t : PT)
  | map (k t : PT)

/-- a value of impl.Type with this kind, N and elements stands for a plain type; all its blocks lie behind x -/
inductive DRep (w : World) (x : Nat) : PT → Int → Int → Value → Prop
  | basic (n : Int) : DRep w x (.basic n) 0 n (.slice none 0 0)
  | ptr {t k n a l c b nm tg em} : x < b → Has w b (.cells (tyl k n 0 false (.slice a l c) nm tg em).toArray 27) → DRep w x t k n (.slice a l c) → DRep w x (.ptr t) 2 0 (.slice (some ⟨b, 0, none⟩) 1 1)
  | slice {t k n a l c b nm tg em} : x < b → Has w b (.cells (tyl k n 0 false (.slice a l c) nm tg em).toArray 27) → DRep w x t k n (.slice a l c) → DRep w x (.slice t) 3 0 (.slice (some ⟨b, 0, none⟩) 1 1)
  | array {t k n a l c b nm tg em m} : x < b → Has w b (.cells (tyl k n 0 false (.slice a l c) nm tg em).toArray 27) → DRep w x t k n (.slice a l c) → DRep w x (.array m t) 4 m (.slice (some ⟨b, 0, none⟩) 1 1)
  | chan {t k n a l c b nm tg em m} : x < b → Has w b (.cells (tyl k n 0 false (.slice a l c) nm tg em).toArray 27) → DRep w x t k n (.slice a l c) → DRep w x (.chan m t) 6 m (.slice (some ⟨b, 0, none⟩) 1 1)
  | map {t k n a l c nm tg em t' k' n' a' l' c' nm' tg' em' b} : x < b → Has w b (.cells (tyl k n 0 false (.slice a l c) nm tg em ++ tyl k' n' 0 false (.slice a' l' c') nm' tg' em').toArray 27) →
      DRep w x t k n (.slice a l c) → DRep w x t' k' n' (.slice a' l' c') → DRep w x (.map t t') 5 0 (.slice (some ⟨b, 0, none⟩) 2 2)

theorem DRep.ext {w w' : World} {x : Nat} (hx : Ext w w') {t : PT} {k n : Int} {s : Value} (h : DRep w x t k n s) : DRep w' x t k n s := by
  induction h with
  | basic n => exact .basic n
  | ptr h0 h1 _ ih => exact .ptr h0 (h1.ext' hx) ih
  | slice h0 h1 _ ih => exact .slice h0 (h1.ext' hx) ih
  | array h0 h1 _ ih => exact .array h0 (h1.ext' hx) ih
  | chan h0 h1 _ ih => exact .chan h0 (h1.ext' hx) ih
  | map h0 h1 _ _ ih1 ih2 => exact .map h0 (h1.ext' hx) ih1 ih2
theorem DRep.upd {w w' : World} {x y : Nat} {o : Obj} (u : Upd w y o w') (hy : y ≤ x) {t : PT} {k n : Int} {s : Value} (h : DRep w x t k n s) : DRep w' x t k n s := by
  induction h with
  | basic n => exact .basic n
  | ptr h0 h1 _ ih => exact .ptr h0 (u.keep h1 (by omega)) ih
  | slice h0 h1 _ ih => exact .slice h0 (u.keep h1 (by omega)) ih
  | array h0 h1 _ ih => exact .array h0 (u.keep h1 (by omega)) ih
  | chan h0 h1 _ ih => exact .chan h0 (u.keep h1 (by omega)) ih
  | map h0 h1 _ _ ih1 ih2 => exact .map h0 (u.keep h1 (by omega)) ih1 ih2

/-- one step of chain -/
def stepT (k : Int) (t : PT) : PT :=
  if k % 100 % 5 = 0 then .ptr t else if k % 100 % 5 = 1 then .slice t else if k % 100 % 5 = 2 then .array (k % 100 / 5) t
  else if k % 100 % 5 = 3 then .chan (k % 100 / 5 % 3) t else .map (.basic (k % 100 / 5)) t
def chainT (l : List Int) (n : Int) : PT := l.foldl (fun t k => stepT k t) (.basic (n % 20))

theorem chainT_snoc (l : List Int) (n k : Int) : chainT (l ++ [k]) n = stepT k (chainT l n) := by simp [chainT]

set_option maxHeartbeats 1000000 in
theorem c_chain (l : List Int) (n : Int) (sl : Value) (w : World) (hl : l.length ≤ 4611686018427387904) (hI : Ints w sl l) :
    Calls Tryz.prog 14 #[sl, .int .i64 n] w
      (Ret fun r w' => ∃ x k n' a lc c, r = tyv k n' 0 false (.slice a lc c) E0 E0 false ∧ DRep w' x (chainT l n) k n' (.slice a lc c) ∧ Ext w w') := by
  obtain ⟨sa, sc, rfl⟩ := hI.shape
  refine W.enter (args := [.slice sa l.length sc, .int .i64 n]) Tryz.func14 rfl Tryz.ntmps14 rfl rfl ?_
  (repeat (first
      | (guard_target =~ gW (.seq _ _); refine W.seq ?_)
      | (guard_target =~ gW (.region _ _ false); refine W.reg ?_)
      ))
  refine WU.stp rfl rfl rfl stp_alloc ?_
  rintro _ w1 ⟨b4, rfl, n1⟩
  (repeat (first
      | (guard_target =~ gU _; first
          | (guard_target =~ gU []; first | refine WU.nilk ?_ )
          | refine WU.yld rfl rfl rfl (by first | (guard_target =~ gY (.move _); exact ze rfl) ) ?_
          )
      | (guard_target =~ gW (.seq _ _); refine W.seq ?_)
      | (guard_target =~ gW (.region _ _ false); refine W.reg ?_)
      ))
  refine WU.stp rfl rfl rfl (stp_call rfl (c_place n 20 w1 (by omega))) ?_
  rintro _ w2 ⟨rfl, rfl⟩
  refine WU.stp rfl rfl rfl (stp_call rfl (c_basic (n % 20) w1)) ?_
  rintro _ w2 ⟨rfl, x2⟩
  refine WU.stp rfl rfl rfl stp_alloc ?_
  rintro _ w3 ⟨b5, rfl, n3⟩
  refine WU.stp0 rfl rfl (stp_store_whole rfl rfl rfl rfl) ?_
  rintro _ w4 u4
  have hb4 := n1.num
  have hb5 := n3.num
  have h4 := n1.has.lt
  have s2 := x2.size
  have x4 : Ext w w4 := u4.ext (n1.ext.trans (x2.trans n3.ext)) (by omega)
  have i4 : Has w4 b4 _ := u4.keep inferInstance (by omega)
  have i5 : Has w4 b5 _ := u4.has
  have hle : w.heap.size ≤ b5 := by omega
  have hne : b4 ≠ b5 := by omega
  have hle4 : w.heap.size ≤ b4 := by omega
  have hlt45 : b4 < b5 := by omega
  clear u4
  (repeat (first
      | (guard_target =~ gU _; first
          | (guard_target =~ gU []; first | refine WU.nilk ?_ )
          | refine WU.yld rfl rfl rfl (by first | (guard_target =~ gY (.move _); exact ze rfl) | (guard_target =~ gY (.call _); first | exact yx rfl ) ) ?_
          )
      | (guard_target =~ gW (.seq _ _); refine W.seq ?_)
      | (guard_target =~ gW (.region _ _ false); refine W.reg ?_)
      | (guard_target =~ gW (.block _ _); refine W.block ?_)
      ))
  refine W.loop (σ := Nat) (fun i => [(13, .int .i64 i), (12, .int .i64 l.length), (11, .slice sa l.length sc), (5, .pointer (some ⟨b5, 0, none⟩)), (4, .pointer (some ⟨b4, 0, none⟩))])
    (fun i D w' => D = [] ∧ i ≤ l.length ∧ Ext w w' ∧ Has w' b4 (.cells (tyl 0 0 0 false (.slice none 0 0) E0 E0 false).toArray 27) ∧
      ∃ k n' a lc c, Has w' b5 (.cells (tyl k n' 0 false (.slice a lc c) E0 E0 false).toArray 27) ∧ DRep w' b5 (chainT (l.take i) n) k n' (.slice a lc c))
    (fun i => l.length - i) 0 ⟨rfl, Nat.zero_le _, x4, i4, 0, n % 20, none, 0, 0, i5, .basic _⟩ (by exact sub_of ⟨rfl, rfl, rfl, rfl, rfl, trivial⟩) ?_
  clear x4 i4 i5 n1 n3 x2 s2 h4 hb4 hb5
  rintro i D wr ⟨rfl, hi, xr, ir, k, n', a, lc, c, hr, hd⟩
  (repeat (first
      | (guard_target =~ gU _; first
          | (guard_target =~ gU []; first | refine WU.nilk ?_ )
          | refine WU.yld rfl rfl rfl (by first | (guard_target =~ gY (.binOp .lss _ _ _ _); exact zc rfl rfl) ) ?_
          )
      | (guard_target =~ gW (.seq _ _); refine W.seq ?_)
      | (guard_target =~ gW (.region _ _ false); refine W.reg ?_)
      ))
  by_cases hlt : i < l.length
  · rw [show decide ((i : Int) < (l.length : Int)) = true by simpa using hlt]
    rcases hI with ⟨_, h1, h2⟩ | ⟨b, o, c', h1, hc⟩
    · subst h2; simp at hlt
    cases h1
    have hcell := xr.cell (hc i l[i] (by simp [hlt]))
    have htk : l.take (i + 1) = l.take i ++ [l[i]] := by simp [hlt]
    have hnx : chainT (l.take (i + 1)) n = stepT l[i] (chainT (l.take i) n) := by rw [htk, chainT_snoc]
    generalize l[i] = z at hcell hnx
    have hb5 := hr.lt
    (repeat (first
        | (guard_target =~ gU _; first
            | refine WU.yld rfl rfl rfl (by first | (guard_target =~ gY (.indexAddr _ _ _); exact yw rfl rfl (by omega) (by omega))) ?_
            )
        | (guard_target =~ gW (.seq _ _); refine W.seq ?_)
        | (guard_target =~ gW (.region _ _ false); refine W.reg ?_)
        | (guard_target =~ gW (.cond _ _ _); first | refine W.cond_t rfl ?_ )
        | (guard_target =~ gW (.block _ _); refine W.block ?_)
        | (guard_target =~ gW .skip; refine W.skip ?_)
        ))
    refine WU.yld rfl rfl rfl (yld_load_c rfl (by simpa using hcell)) ?_
    clear hcell hc htk
    (repeat (first
        | (guard_target =~ gU _; first
            | (guard_target =~ gU []; first | refine WU.nilk ?_ )
            | refine WU.yld rfl rfl rfl (by first | (guard_target =~ gY (.move _); exact ze rfl) | (guard_target =~ gY (.assign _); exact yf rfl) ) ?_
            )
        | (guard_target =~ gW (.seq _ _); refine W.seq ?_)
        | (guard_target =~ gW (.region _ _ false); refine W.reg ?_)
        ))
    refine WU.stp rfl rfl rfl (stp_call rfl (c_place z 100 wr (by omega))) ?_
    rintro _ w2 ⟨rfl, rfl⟩
    have hq : 0 ≤ z % 100 ∧ z % 100 < 100 := by omega
    unfold stepT at hnx
    generalize z % 100 = q at hq hnx
    (repeat (first
        | (guard_target =~ gU _; first
            | (guard_target =~ gU []; first | refine WU.nilk ?_ )
            | refine WU.yld rfl rfl rfl (by first | (guard_target =~ gY (.move _); exact ze rfl) | (guard_target =~ gY (.assign _); exact yf rfl) ) ?_
            )
        | (guard_target =~ gW (.seq _ _); refine W.seq ?_)
        | (guard_target =~ gW (.region _ _ false); refine W.reg ?_)
        ))
    refine WU.yld rfl rfl rfl (yld_rem_in rfl rfl (by omega) (by omega)) ?_
    (repeat (first
        | (guard_target =~ gU _; first
            | (guard_target =~ gU []; first | refine WU.nilk ?_ )
            | refine WU.yld rfl rfl rfl (by first | (guard_target =~ gY (.assign _); exact yf rfl) | (guard_target =~ gY (.binOp .eql _ _ _ _); first | exact yl rfl rfl ) ) ?_
            )
        | (guard_target =~ gW (.seq _ _); refine W.seq ?_)
        | (guard_target =~ gW (.region _ _ false); refine W.reg ?_)
        | (guard_target =~ gW (.block _ _); refine W.block ?_)
        ))
    by_cases h0 : q % 5 = 0
    · rw [show (q % 5 == 0) = true by simpa using h0]
      rw [if_pos h0] at hnx
      (repeat (first
          | (guard_target =~ gU _; first
              | refine WU.yld rfl rfl rfl (by first | (guard_target =~ gY (.load _ _); first | exact zb rfl) ) ?_
              )
          | (guard_target =~ gW (.region _ _ false); refine W.reg ?_)
          | (guard_target =~ gW (.cond _ _ _); first | refine W.cond_t rfl ?_ )
          ))
      refine WU.stp rfl rfl rfl (stp_call rfl (c_pointer k n' 0 false a lc c E0 E0 false wr)) ?_
      rintro _ w5 ⟨e, rfl, he, hle5, x5⟩
      refine WU.stp0 rfl rfl (stp_store_whole rfl rfl rfl rfl) ?_
      rintro _ w6 u6
      (repeat (first
          | (guard_target =~ gU _; first
              | (guard_target =~ gU []; first | refine WU.nilk ?_ | refine WU.nil ?_)
              | refine WU.yld rfl rfl rfl (by first | (guard_target =~ gY (.move _); exact ze rfl) | (guard_target =~ gY (.binOp .add _ _ _ _); exact ya rfl rfl (by omega)) ) ?_
              )
          | (guard_target =~ gW (.region _ _ false); refine W.reg ?_)
          ))
      exact ⟨i + 1, by omega, ⟨rfl, by omega, u6.ext (xr.trans x5) hle, u6.keep inferInstance hne, _, _, _, _, _, u6.has, by rw [hnx]; exact (DRep.ptr (by omega) he (hd.ext x5)).upd u6 (Nat.le_refl _)⟩, sub_of ⟨rfl, rfl, rfl, rfl, rfl, trivial⟩⟩
    rw [show (q % 5 == 0) = false by simpa using h0]
    rw [if_neg h0] at hnx
    (repeat (first
        | (guard_target =~ gU _; first
            | (guard_target =~ gU []; first | refine WU.nilk ?_ )
            | refine WU.yld rfl rfl rfl (by first | (guard_target =~ gY (.assign _); exact yf rfl) | (guard_target =~ gY (.binOp .eql _ _ _ _); first | exact yl rfl rfl ) ) ?_
            )
        | (guard_target =~ gW (.seq _ _); refine W.seq ?_)
        | (guard_target =~ gW (.region _ _ false); refine W.reg ?_)
        | (guard_target =~ gW (.cond _ _ _); first | refine W.cond_f rfl ?_)
        ))
    by_cases h1 : q % 5 = 1
    · rw [show (q % 5 == 1) = true by simpa using h1]
      rw [if_pos h1] at hnx
      (repeat (first
          | (guard_target =~ gU _; first
              | refine WU.yld rfl rfl rfl (by first | (guard_target =~ gY (.load _ _); first | exact zb rfl) ) ?_
              )
          | (guard_target =~ gW (.region _ _ false); refine W.reg ?_)
          | (guard_target =~ gW (.cond _ _ _); first | refine W.cond_t rfl ?_ )
          ))
      refine WU.stp rfl rfl rfl (stp_call rfl (c_slice k n' 0 false a lc c E0 E0 false wr)) ?_
      rintro _ w5 ⟨e, rfl, he, hle5, x5⟩
      refine WU.stp0 rfl rfl (stp_store_whole rfl rfl rfl rfl) ?_
      rintro _ w6 u6
      (repeat (first
          | (guard_target =~ gU _; first
              | (guard_target =~ gU []; first | refine WU.nilk ?_ | refine WU.nil ?_)
              | refine WU.yld rfl rfl rfl (by first | (guard_target =~ gY (.move _); exact ze rfl) | (guard_target =~ gY (.binOp .add _ _ _ _); exact ya rfl rfl (by omega)) ) ?_
              )
          | (guard_target =~ gW (.region _ _ false); refine W.reg ?_)
          ))
      exact ⟨i + 1, by omega, ⟨rfl, by omega, u6.ext (xr.trans x5) hle, u6.keep inferInstance hne, _, _, _, _, _, u6.has, by rw [hnx]; exact (DRep.slice (by omega) he (hd.ext x5)).upd u6 (Nat.le_refl _)⟩, sub_of ⟨rfl, rfl, rfl, rfl, rfl, trivial⟩⟩
    rw [show (q % 5 == 1) = false by simpa using h1]
    rw [if_neg h1] at hnx
    (repeat (first
        | (guard_target =~ gU _; first
            | (guard_target =~ gU []; first | refine WU.nilk ?_ )
            | refine WU.yld rfl rfl rfl (by first | (guard_target =~ gY (.assign _); exact yf rfl) | (guard_target =~ gY (.binOp .eql _ _ _ _); first | exact yl rfl rfl ) ) ?_
            )
        | (guard_target =~ gW (.seq _ _); refine W.seq ?_)
        | (guard_target =~ gW (.region _ _ false); refine W.reg ?_)
        | (guard_target =~ gW (.cond _ _ _); first | refine W.cond_f rfl ?_)
        ))
    by_cases h2 : q % 5 = 2
    · rw [show (q % 5 == 2) = true by simpa using h2]
      rw [if_pos h2] at hnx
      (repeat (first
          | (guard_target =~ gU _; first
              | refine WU.yld rfl rfl rfl (by first | (guard_target =~ gY (.move _); exact ze rfl) ) ?_
              )
          | (guard_target =~ gW (.region _ _ false); refine W.reg ?_)
          | (guard_target =~ gW (.cond _ _ _); first | refine W.cond_t rfl ?_ )
          ))
      refine WU.yld rfl rfl rfl (yld_quo_in rfl rfl (by omega) (by omega)) ?_
      (repeat (first
          | (guard_target =~ gU _; first
              | refine WU.yld rfl rfl rfl (by first | (guard_target =~ gY (.load _ _); first | exact zb rfl) ) ?_
              )
          ))
      refine WU.stp rfl rfl rfl (stp_call rfl (c_array (q / 5) k n' 0 false a lc c E0 E0 false wr)) ?_
      rintro _ w5 ⟨e, rfl, he, hle5, x5⟩
      refine WU.stp0 rfl rfl (stp_store_whole rfl rfl rfl rfl) ?_
      rintro _ w6 u6
      (repeat (first
          | (guard_target =~ gU _; first
              | (guard_target =~ gU []; first | refine WU.nilk ?_ | refine WU.nil ?_)
              | refine WU.yld rfl rfl rfl (by first | (guard_target =~ gY (.move _); exact ze rfl) | (guard_target =~ gY (.binOp .add _ _ _ _); exact ya rfl rfl (by omega)) ) ?_
              )
          | (guard_target =~ gW (.region _ _ false); refine W.reg ?_)
          ))
      exact ⟨i + 1, by omega, ⟨rfl, by omega, u6.ext (xr.trans x5) hle, u6.keep inferInstance hne, _, _, _, _, _, u6.has, by rw [hnx]; exact (DRep.array (by omega) he (hd.ext x5)).upd u6 (Nat.le_refl _)⟩, sub_of ⟨rfl, rfl, rfl, rfl, rfl, trivial⟩⟩
    rw [show (q % 5 == 2) = false by simpa using h2]
    rw [if_neg h2] at hnx
    (repeat (first
        | (guard_target =~ gU _; first
            | (guard_target =~ gU []; first | refine WU.nilk ?_ )
            | refine WU.yld rfl rfl rfl (by first | (guard_target =~ gY (.assign _); exact yf rfl) | (guard_target =~ gY (.binOp .eql _ _ _ _); first | exact yl rfl rfl ) ) ?_
            )
        | (guard_target =~ gW (.seq _ _); refine W.seq ?_)
        | (guard_target =~ gW (.region _ _ false); refine W.reg ?_)
        | (guard_target =~ gW (.cond _ _ _); first | refine W.cond_f rfl ?_)
        ))
    by_cases h3 : q % 5 = 3
    · rw [show (q % 5 == 3) = true by simpa using h3]
      rw [if_pos h3] at hnx
      (repeat (first
          | (guard_target =~ gU _; first
              | refine WU.yld rfl rfl rfl (by first | (guard_target =~ gY (.move _); exact ze rfl) ) ?_
              )
          | (guard_target =~ gW (.region _ _ false); refine W.reg ?_)
          | (guard_target =~ gW (.cond _ _ _); first | refine W.cond_t rfl ?_ )
          ))
      refine WU.yld rfl rfl rfl (yld_quo_in rfl rfl (by omega) (by omega)) ?_
      refine WU.yld rfl rfl rfl (yld_rem_in rfl rfl (by omega) (by omega)) ?_
      (repeat (first
          | (guard_target =~ gU _; first
              | refine WU.yld rfl rfl rfl (by first | (guard_target =~ gY (.load _ _); first | exact zb rfl) ) ?_
              )
          ))
      refine WU.stp rfl rfl rfl (stp_call rfl (c_channel (q / 5 % 3) k n' 0 false a lc c E0 E0 false wr)) ?_
      rintro _ w5 ⟨e, rfl, he, hle5, x5⟩
      refine WU.stp0 rfl rfl (stp_store_whole rfl rfl rfl rfl) ?_
      rintro _ w6 u6
      (repeat (first
          | (guard_target =~ gU _; first
              | (guard_target =~ gU []; first | refine WU.nilk ?_ | refine WU.nil ?_)
              | refine WU.yld rfl rfl rfl (by first | (guard_target =~ gY (.move _); exact ze rfl) | (guard_target =~ gY (.binOp .add _ _ _ _); exact ya rfl rfl (by omega)) ) ?_
              )
          | (guard_target =~ gW (.region _ _ false); refine W.reg ?_)
          ))
      exact ⟨i + 1, by omega, ⟨rfl, by omega, u6.ext (xr.trans x5) hle, u6.keep inferInstance hne, _, _, _, _, _, u6.has, by rw [hnx]; exact (DRep.chan (by omega) he (hd.ext x5)).upd u6 (Nat.le_refl _)⟩, sub_of ⟨rfl, rfl, rfl, rfl, rfl, trivial⟩⟩
    rw [show (q % 5 == 3) = false by simpa using h3]
    rw [if_neg h3] at hnx
    (repeat (first
        | (guard_target =~ gU _; first
            | (guard_target =~ gU []; first | refine WU.nilk ?_ )
            | refine WU.yld rfl rfl rfl (by first | (guard_target =~ gY (.assign _); exact yf rfl) | (guard_target =~ gY (.binOp .eql _ _ _ _); first | exact yl rfl rfl ) ) ?_
            )
        | (guard_target =~ gW (.seq _ _); refine W.seq ?_)
        | (guard_target =~ gW (.region _ _ false); refine W.reg ?_)
        | (guard_target =~ gW (.cond _ _ _); first | refine W.cond_f rfl ?_)
        ))
    rw [show (q % 5 == 4) = true by simp; omega]
    (repeat (first
        | (guard_target =~ gW (.cond _ _ _); first | refine W.cond_t rfl ?_ )
        ))
    refine W.regD [(0, .q), (1, .q), (3, .q), (2, .l), (4, .l), (5, .z)] (by kernel_rfl) (by kernel_rfl) rfl ?_
    intro w3 x3 _
    refine WD.yld rfl rfl rfl rfl (yld_move rfl) ?_
    refine WD.yld rfl rfl rfl rfl (yld_quo_in rfl rfl (by omega) (by omega)) ?_
    (repeat (first
        | refine WD.yld rfl rfl rfl rfl (by first | (guard_target =~ gY (.load _ _); first | exact zb rfl) ) ?_
        ))
    refine WD.stp rfl rfl rfl rfl (stp_call rfl (c_basic (q / 5) w3)) ?_
    rintro _ w4 ⟨rfl, x4⟩
    refine ⟨by first | assumption | exact Ext.rfl' _ | infer_instance, ?_⟩
    refine WD.stp rfl rfl rfl rfl (stp_call rfl (c_mapping 0 (q / 5) 0 false none 0 0 E0 E0 false k n' 0 false a lc c E0 E0 false w4)) ?_
    rintro _ w5 ⟨e, rfl, he, hle5, x5⟩
    refine ⟨by first | assumption | exact Ext.rfl' _ | infer_instance, ?_⟩
    have s3 := x3.size
    have s4 := x4.size
    refine WD.last0 rfl rfl rfl (stp_store_whole rfl rfl rfl rfl) ?_
    rintro _ w6 u6
    (repeat (first
        | (guard_target =~ WD _ _ _ _ [] _ _ _; first | refine WD.nil ?_)
        ))
    (repeat (first
        | (guard_target =~ gU _; first
            | (guard_target =~ gU []; first | refine WU.nilk ?_ )
            | refine WU.yld rfl rfl rfl (by first | (guard_target =~ gY (.move _); exact ze rfl) | (guard_target =~ gY (.binOp .add _ _ _ _); exact ya rfl rfl (by omega)) ) ?_
            )
        | (guard_target =~ gW (.region _ _ false); refine W.reg ?_)
        ))
    have hx := x3.trans (x4.trans x5)
    exact ⟨i + 1, by omega, ⟨rfl, by omega, u6.ext (xr.trans hx) hle, u6.keep inferInstance hne, _, _, _, _, _, u6.has, by rw [hnx]; exact (DRep.map (by omega) he (.basic _) (hd.ext hx)).upd u6 (Nat.le_refl _)⟩, sub_of ⟨rfl, rfl, rfl, rfl, rfl, trivial⟩⟩
  · rw [show decide ((i : Int) < (l.length : Int)) = false by simpa using hlt]
    obtain rfl : i = l.length := by omega
    rw [List.take_length] at hd
    (repeat (first
        | (guard_target =~ gU _; first
            | refine WU.yld rfl rfl rfl (by first | (guard_target =~ gY (.load _ _); first | exact zb rfl) ) ?_
            )
        | (guard_target =~ gW (.seq _ _); refine W.seq ?_)
        | (guard_target =~ gW (.region _ _ false); refine W.reg ?_)
        | (guard_target =~ gW (.cond _ _ _); first | refine W.cond_f rfl ?_)
        | (guard_target =~ gW (.exit _); refine W.exit ?_)
        ))
    refine WU.stp0 rfl rfl (stp_store_whole rfl rfl rfl rfl) ?_
    rintro _ w6 u6
    (repeat (first
        | (guard_target =~ gU _; first
            | (guard_target =~ gU []; first | refine WU.nilk ?_ )
            )
        | (guard_target =~ gW .ret; refine W.ret ?_)
        ))
    exact finc (.inl rfl) rfl rfl ⟨b5, _, _, _, _, _, rfl, hd.upd u6 (by omega), u6.ext xr hle4⟩
end Go.Proofs.YtnmodbmaokilaaaGreatDoor

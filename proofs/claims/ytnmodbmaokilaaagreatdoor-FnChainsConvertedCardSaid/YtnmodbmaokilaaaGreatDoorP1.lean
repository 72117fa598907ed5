/- The plain family, part 1: the law functions that build a type as data. -/
import Derived.Test.YtnmodbmaokilaaaGreatDoorKf
import Derived.Test.YtnmodbmaokilaaaGreatDoorKg
namespace Go.Proofs.YtnmodbmaokilaaaGreatDoor
open Go Go.Kd
set_option maxRecDepth 100000

/-- a value of impl.Type -/
abbrev tyv (k n c : Int) (vr : Bool) (sl : Value) (nm tg : ByteArray) (em : Bool) : Value :=
  .agg #[.int .i64 k, .int .i64 n, .int .i64 c, .bool vr, sl, .string nm, .string tg, .bool em]
abbrev tyl (k n c : Int) (vr : Bool) (sl : Value) (nm tg : ByteArray) (em : Bool) : List Value :=
  [.int .i64 k, .int .i64 n, .int .i64 c, .bool vr, sl, .string nm, .string tg, .bool em]
abbrev E0 : ByteArray := ⟨#[]⟩

theorem c_place (n k : Int) (w : World) (hk : 0 < k ∧ k ≤ 1000000) :
    Calls Tryz.prog 9 #[.int .i64 n, .int .i64 k] w (Ret fun r w' => r = .int .i64 (n % k) ∧ w = w') := by
  have h1 : -k < n.tmod k ∧ n.tmod k < k := ⟨by have := Int.lt_tmod_of_pos n hk.1; omega, Int.tmod_lt_of_pos n hk.1⟩
  have h2 : (n.tmod k + k).tmod k = n % k := by
    rw [Int.tmod_eq_emod_of_nonneg (by omega), Int.add_emod_right, Int.tmod_def, Int.sub_eq_add_neg, ← Int.mul_neg, Int.add_mul_emod_self_left]
  refine W.enter (args := [.int .i64 n, .int .i64 k]) Tryz.func9 rfl Tryz.ntmps9 rfl rfl ?_
  (repeat (first
      | (guard_target =~ gU _; first
          | (guard_target =~ gU []; first | refine WU.nilk ?_ )
          | refine WU.yld rfl rfl rfl (by first | (guard_target =~ gY (.move _); exact ze rfl) | (guard_target =~ gY (.assign _); exact yf rfl)                    ) ?_
          )
      | (guard_target =~ gW (.seq _ _); refine W.seq ?_)
      | (guard_target =~ gW (.region _ _ false); refine W.reg ?_)
      ))
  refine WU.yld rfl rfl rfl (yld_rem rfl rfl (by omega)) ?_
  (repeat (first
      | (guard_target =~ gU _; first
          | refine WU.yld rfl rfl rfl (by first | (guard_target =~ gY (.move _); exact ze rfl)                 | (guard_target =~ gY (.binOp .add _ _ _ _); exact ya rfl rfl (by omega))    ) ?_
          )
      ))
  refine WU.yld rfl rfl rfl (yld_rem rfl rfl (by omega)) ?_
  (repeat (first
      | (guard_target =~ gU _; first
          | (guard_target =~ gU []; first | refine WU.nilk ?_ )
          | refine WU.yld rfl rfl rfl (by first  | (guard_target =~ gY (.assign _); exact yf rfl)                    ) ?_
          )
      | (guard_target =~ gW .ret; refine W.ret ?_)
      ))
  exact fin1 (.inl rfl) rfl rfl ⟨by rw [h2], rfl⟩

theorem c_of (k n : Int) (a : Option Addr) (l c : Nat) (w : World) :
    Calls Tryz.prog 21 #[.int .i64 k, .int .i64 n, .slice a l c] w
      (Ret fun r w' => r = tyv k n 0 false (.slice a l c) E0 E0 false ∧ Ext w w') := by
  refine W.enter (args := [.int .i64 k, .int .i64 n, .slice a l c]) Tryz.func21 rfl Tryz.ntmps21 rfl rfl ?_
  (repeat (first
      | (guard_target =~ gW (.seq _ _); refine W.seq ?_)
      | (guard_target =~ gW (.region _ _ false); refine W.reg ?_)
      ))
  refine WU.stp rfl rfl rfl stp_alloc ?_
  rintro _ w1 ⟨b1, rfl, n1⟩
  (repeat (first
      | (guard_target =~ gU _; first
          | (guard_target =~ gU []; first | refine WU.nilk ?_ )
          | refine WU.yld rfl rfl rfl (by first | (guard_target =~ gY (.move _); exact ze rfl)                    | (guard_target =~ gY (.build _ _); exact yg rfl rfl) ) ?_
          )
      | (guard_target =~ gW (.seq _ _); refine W.seq ?_)
      | (guard_target =~ gW (.region _ _ false); refine W.reg ?_)
      ))
  refine WU.stp0 rfl rfl (stp_store_whole rfl rfl rfl rfl) ?_
  rintro _ w2 u2
  (repeat (first
      | (guard_target =~ gU _; first
          | (guard_target =~ gU []; first | refine WU.nilk ?_ )
          )
      | (guard_target =~ gW .ret; refine W.ret ?_)
      ))
  exact finc (.inl rfl) rfl rfl ⟨rfl, (u2.ofNew n1).ext⟩

theorem c_basic (n : Int) (w : World) :
    Calls Tryz.prog 11 #[.int .i64 n] w
      (Ret fun r w' => r = tyv 0 n 0 false (.slice none 0 0) E0 E0 false ∧ Ext w w') := by
  refine W.enter (args := [.int .i64 n]) Tryz.func11 rfl Tryz.ntmps11 rfl rfl ?_
  (repeat (first
      | (guard_target =~ gW (.seq _ _); refine W.seq ?_)
      | (guard_target =~ gW (.region _ _ false); refine W.reg ?_)
      ))
  refine WU.stp rfl rfl rfl stp_alloc ?_
  rintro _ w1 ⟨b1, rfl, n1⟩
  (repeat (first
      | (guard_target =~ gU _; first
          | (guard_target =~ gU []; first | refine WU.nilk ?_ )
          | refine WU.yld rfl rfl rfl (by first | (guard_target =~ gY (.move _); exact ze rfl)                     ) ?_
          )
      | (guard_target =~ gW (.seq _ _); refine W.seq ?_)
      | (guard_target =~ gW (.region _ _ false); refine W.reg ?_)
      ))
  refine WU.stp rfl rfl rfl (stp_call rfl (c_of 0 n none 0 0 w1)) ?_
  rintro _ w2 ⟨rfl, x2⟩
  refine WU.stp0 rfl rfl (stp_store_whole rfl rfl rfl rfl) ?_
  rintro _ w3 u3
  (repeat (first
      | (guard_target =~ gU _; first
          | (guard_target =~ gU []; first | refine WU.nilk ?_ )
          )
      | (guard_target =~ gW .ret; refine W.ret ?_)
      ))
  exact finc (.inl rfl) rfl rfl ⟨rfl, u3.ext (n1.ext.trans x2) (Nat.le_of_eq n1.num.symm)⟩

theorem c_field (nm tg : ByteArray) (k n c : Int) (vr : Bool) (a : Option Addr) (l cp : Nat) (nm' tg' : ByteArray) (em : Bool) (w : World) :
    Calls Tryz.prog 56 #[.string nm, tyv k n c vr (.slice a l cp) nm' tg' em, .string tg] w
      (Ret fun r w' => r = tyv k n c vr (.slice a l cp) nm tg false ∧ Ext w w') := by
  refine W.enter (args := [.string nm, tyv k n c vr (.slice a l cp) nm' tg' em, .string tg]) Tryz.func56 rfl Tryz.ntmps56 rfl rfl ?_
  (repeat (first
      | (guard_target =~ gW (.seq _ _); refine W.seq ?_)
      | (guard_target =~ gW (.region _ _ false); refine W.reg ?_)
      ))
  refine WU.stp rfl rfl rfl (by first | exact stp_box rfl rfl | exact stp_box1 rfl rfl) ?_
  rintro _ w1 ⟨b1, rfl, n1⟩
  refine WU.stp rfl rfl rfl stp_alloc ?_
  rintro _ w2 ⟨b2, rfl, n2⟩
  have hb := n1.num
  have hb2 := n2.num
  have hs := n1.size
  (repeat (first
      | (guard_target =~ gU _; first
          | (guard_target =~ gU []; first | refine WU.nilk ?_ )
          | refine WU.yld rfl rfl rfl (by first | (guard_target =~ gY (.move _); exact ze rfl)   | (guard_target =~ gY (.fieldAddr _ _ _); exact yt rfl)                  ) ?_
          )
      | (guard_target =~ gW (.seq _ _); refine W.seq ?_)
      | (guard_target =~ gW (.region _ _ false); refine W.reg ?_)
      ))
  refine WU.stp0 rfl rfl (stp_store_cell rfl rfl rfl rfl) ?_
  rintro _ w3 u3
  (repeat (first
      | (guard_target =~ gU _; first
          | refine WU.yld rfl rfl rfl (by first    | (guard_target =~ gY (.fieldAddr _ _ _); exact yt rfl)                  ) ?_
          )
      ))
  refine WU.stp0 rfl rfl (stp_store_cell rfl rfl rfl rfl) ?_
  rintro _ w4 u4
  (repeat (first
      | (guard_target =~ gU _; first
          | refine WU.yld rfl rfl rfl (by first    | (guard_target =~ gY (.fieldAddr _ _ _); exact yt rfl)                  ) ?_
          )
      ))
  refine WU.stp0 rfl rfl (stp_store_cell rfl rfl rfl rfl) ?_
  rintro _ w5 u5
  (repeat (first
      | (guard_target =~ gU _; first
          | (guard_target =~ gU []; first | refine WU.nilk ?_ )
          | refine WU.yld rfl rfl rfl (by first   | (guard_target =~ gY (.load _ _); first  | exact zb rfl)                   ) ?_
          )
      | (guard_target =~ gW (.seq _ _); refine W.seq ?_)
      | (guard_target =~ gW (.region _ _ false); refine W.reg ?_)
      ))
  have i5 : Has w5 b2 _ := u5.keep (u4.keep (u3.keep inferInstance (by omega)) (by omega)) (by omega)
  refine WU.stp0 rfl rfl (stp_store_whole rfl rfl rfl rfl) ?_
  rintro _ w6 u6
  (repeat (first
      | (guard_target =~ gU _; first
          | (guard_target =~ gU []; first | refine WU.nilk ?_ )
          )
      | (guard_target =~ gW .ret; refine W.ret ?_)
      ))
  have x5 : Ext w w5 := u5.ext (u4.ext (u3.ext (n1.ext.trans n2.ext) (by omega)) (by omega)) (by omega)
  exact finc (.inl rfl) rfl rfl ⟨rfl, u6.ext x5 (by omega)⟩

theorem c_element (k n c : Int) (vr : Bool) (a : Option Addr) (l cp : Nat) (nm tg : ByteArray) (em : Bool) (w : World) :
    Calls Tryz.prog 39 #[tyv k n c vr (.slice a l cp) nm tg em] w
      (Ret fun r w' => r = tyv k n c vr (.slice a l cp) E0 E0 false ∧ Ext w w') := by
  refine W.enter (args := [tyv k n c vr (.slice a l cp) nm tg em]) Tryz.func39 rfl Tryz.ntmps39 rfl rfl ?_
  (repeat (first
      | (guard_target =~ gW (.seq _ _); refine W.seq ?_)
      | (guard_target =~ gW (.region _ _ false); refine W.reg ?_)
      ))
  refine WU.stp rfl rfl rfl (by first | exact stp_box rfl rfl | exact stp_box1 rfl rfl) ?_
  rintro _ w1 ⟨b1, rfl, n1⟩
  refine WU.stp rfl rfl rfl stp_alloc ?_
  rintro _ w2 ⟨b2, rfl, n2⟩
  have hb := n1.num
  have hb2 := n2.num
  have hs := n1.size
  (repeat (first
      | (guard_target =~ gU _; first
          | (guard_target =~ gU []; first | refine WU.nilk ?_ )
          | refine WU.yld rfl rfl rfl (by first   | (guard_target =~ gY (.load _ _); first  | exact zb rfl)                   ) ?_
          )
      | (guard_target =~ gW (.seq _ _); refine W.seq ?_)
      | (guard_target =~ gW (.region _ _ false); refine W.reg ?_)
      ))
  refine WU.stp rfl rfl rfl (stp_call rfl (c_field E0 E0 k n c vr a l cp nm tg em w2)) ?_
  rintro _ w3 ⟨rfl, x3⟩
  refine WU.stp0 rfl rfl (stp_store_whole rfl rfl rfl rfl) ?_
  rintro _ w4 u4
  (repeat (first
      | (guard_target =~ gU _; first
          | (guard_target =~ gU []; first | refine WU.nilk ?_ )
          )
      | (guard_target =~ gW .ret; refine W.ret ?_)
      ))
  exact finc (.inl rfl) rfl rfl ⟨rfl, u4.ext (n1.ext.trans (n2.ext.trans x3)) (by omega)⟩

/-- pointer, slice -/
theorem c_pointer (k n c : Int) (vr : Bool) (a : Option Addr) (l cp : Nat) (nm tg : ByteArray) (em : Bool) (w : World) :
    Calls Tryz.prog 22 #[tyv k n c vr (.slice a l cp) nm tg em] w
      (Ret fun r w' => ∃ b, r = tyv 2 0 0 false (.slice (some ⟨b, 0, none⟩) 1 1) E0 E0 false ∧ Has w' b (.cells (tyl k n c vr (.slice a l cp) E0 E0 false).toArray 27) ∧ w.heap.size ≤ b ∧ Ext w w') := by
  refine W.enter (args := [tyv k n c vr (.slice a l cp) nm tg em]) Tryz.func22 rfl Tryz.ntmps22 rfl rfl ?_
  (repeat (first
      | (guard_target =~ gW (.seq _ _); refine W.seq ?_)
      | (guard_target =~ gW (.region _ _ false); refine W.reg ?_)
      ))
  refine WU.stp rfl rfl rfl (by first | exact stp_box rfl rfl | exact stp_box1 rfl rfl) ?_
  rintro _ w1 ⟨b1, rfl, n1⟩
  refine WU.stp rfl rfl rfl stp_alloc ?_
  rintro _ w2 ⟨b2, rfl, n2⟩
  have hb := n1.num
  have hb2 := n2.num
  have hs := n1.size
  (repeat (first
      | (guard_target =~ gU _; first
          | (guard_target =~ gU []; first | refine WU.nilk ?_ )
          | refine WU.yld rfl rfl rfl (by first   | (guard_target =~ gY (.load _ _); first  | exact zb rfl)                   ) ?_
          )
      | (guard_target =~ gW (.seq _ _); refine W.seq ?_)
      | (guard_target =~ gW (.region _ _ false); refine W.reg ?_)
      ))
  refine WU.stp rfl rfl rfl (stp_call rfl (c_element k n c vr a l cp nm tg em w2)) ?_
  rintro _ w3 ⟨rfl, x3⟩
  refine WU.stp rfl rfl rfl (stp_buildSlice rfl rfl rfl rfl rfl) ?_
  rintro _ w4 ⟨b4, rfl, n4⟩
  refine WU.stp rfl rfl rfl (stp_call rfl (c_of 2 0 (some ⟨b4, 0, none⟩) 1 1 w4)) ?_
  rintro _ w5 ⟨rfl, x5⟩
  have h2 := n2.has.lt
  have s3 := x3.size
  have hb4 := n4.num
  refine WU.stp0 rfl rfl (stp_store_whole rfl rfl rfl rfl) ?_
  rintro _ w6 u6
  (repeat (first
      | (guard_target =~ gU _; first
          | (guard_target =~ gU []; first | refine WU.nilk ?_ )
          )
      | (guard_target =~ gW .ret; refine W.ret ?_)
      ))
  exact finc (.inl rfl) rfl rfl ⟨b4, rfl, u6.keep inferInstance (by omega), by omega, u6.ext (n1.ext.trans (n2.ext.trans (x3.trans (n4.ext.trans x5)))) (by omega)⟩
theorem c_slice (k n c : Int) (vr : Bool) (a : Option Addr) (l cp : Nat) (nm tg : ByteArray) (em : Bool) (w : World) :
    Calls Tryz.prog 23 #[tyv k n c vr (.slice a l cp) nm tg em] w
      (Ret fun r w' => ∃ b, r = tyv 3 0 0 false (.slice (some ⟨b, 0, none⟩) 1 1) E0 E0 false ∧ Has w' b (.cells (tyl k n c vr (.slice a l cp) E0 E0 false).toArray 27) ∧ w.heap.size ≤ b ∧ Ext w w') := by
  refine W.enter (args := [tyv k n c vr (.slice a l cp) nm tg em]) Tryz.func23 rfl Tryz.ntmps23 rfl rfl ?_
  (repeat (first
      | (guard_target =~ gW (.seq _ _); refine W.seq ?_)
      | (guard_target =~ gW (.region _ _ false); refine W.reg ?_)
      ))
  refine WU.stp rfl rfl rfl (by first | exact stp_box rfl rfl | exact stp_box1 rfl rfl) ?_
  rintro _ w1 ⟨b1, rfl, n1⟩
  refine WU.stp rfl rfl rfl stp_alloc ?_
  rintro _ w2 ⟨b2, rfl, n2⟩
  have hb := n1.num
  have hb2 := n2.num
  have hs := n1.size
  (repeat (first
      | (guard_target =~ gU _; first
          | (guard_target =~ gU []; first | refine WU.nilk ?_ )
          | refine WU.yld rfl rfl rfl (by first   | (guard_target =~ gY (.load _ _); first  | exact zb rfl)                   ) ?_
          )
      | (guard_target =~ gW (.seq _ _); refine W.seq ?_)
      | (guard_target =~ gW (.region _ _ false); refine W.reg ?_)
      ))
  refine WU.stp rfl rfl rfl (stp_call rfl (c_element k n c vr a l cp nm tg em w2)) ?_
  rintro _ w3 ⟨rfl, x3⟩
  refine WU.stp rfl rfl rfl (stp_buildSlice rfl rfl rfl rfl rfl) ?_
  rintro _ w4 ⟨b4, rfl, n4⟩
  refine WU.stp rfl rfl rfl (stp_call rfl (c_of 3 0 (some ⟨b4, 0, none⟩) 1 1 w4)) ?_
  rintro _ w5 ⟨rfl, x5⟩
  have h2 := n2.has.lt
  have s3 := x3.size
  have hb4 := n4.num
  refine WU.stp0 rfl rfl (stp_store_whole rfl rfl rfl rfl) ?_
  rintro _ w6 u6
  (repeat (first
      | (guard_target =~ gU _; first
          | (guard_target =~ gU []; first | refine WU.nilk ?_ )
          )
      | (guard_target =~ gW .ret; refine W.ret ?_)
      ))
  exact finc (.inl rfl) rfl rfl ⟨b4, rfl, u6.keep inferInstance (by omega), by omega, u6.ext (n1.ext.trans (n2.ext.trans (x3.trans (n4.ext.trans x5)))) (by omega)⟩
theorem c_array (m k n c : Int) (vr : Bool) (a : Option Addr) (l cp : Nat) (nm tg : ByteArray) (em : Bool) (w : World) :
    Calls Tryz.prog 24 #[.int .i64 m, tyv k n c vr (.slice a l cp) nm tg em] w
      (Ret fun r w' => ∃ b, r = tyv 4 m 0 false (.slice (some ⟨b, 0, none⟩) 1 1) E0 E0 false ∧ Has w' b (.cells (tyl k n c vr (.slice a l cp) E0 E0 false).toArray 27) ∧ w.heap.size ≤ b ∧ Ext w w') := by
  refine W.enter (args := [.int .i64 m, tyv k n c vr (.slice a l cp) nm tg em]) Tryz.func24 rfl Tryz.ntmps24 rfl rfl ?_
  (repeat (first
      | (guard_target =~ gW (.seq _ _); refine W.seq ?_)
      | (guard_target =~ gW (.region _ _ false); refine W.reg ?_)
      ))
  refine WU.stp rfl rfl rfl (by first | exact stp_box rfl rfl | exact stp_box1 rfl rfl) ?_
  rintro _ w1 ⟨b1, rfl, n1⟩
  refine WU.stp rfl rfl rfl stp_alloc ?_
  rintro _ w2 ⟨b2, rfl, n2⟩
  have hb := n1.num
  have hb2 := n2.num
  have hs := n1.size
  (repeat (first
      | (guard_target =~ gU _; first
          | (guard_target =~ gU []; first | refine WU.nilk ?_ )
          | refine WU.yld rfl rfl rfl (by first | (guard_target =~ gY (.move _); exact ze rfl)  | (guard_target =~ gY (.load _ _); first  | exact zb rfl)                   ) ?_
          )
      | (guard_target =~ gW (.seq _ _); refine W.seq ?_)
      | (guard_target =~ gW (.region _ _ false); refine W.reg ?_)
      ))
  refine WU.stp rfl rfl rfl (stp_call rfl (c_element k n c vr a l cp nm tg em w2)) ?_
  rintro _ w3 ⟨rfl, x3⟩
  refine WU.stp rfl rfl rfl (stp_buildSlice rfl rfl rfl rfl rfl) ?_
  rintro _ w4 ⟨b4, rfl, n4⟩
  refine WU.stp rfl rfl rfl (stp_call rfl (c_of 4 m (some ⟨b4, 0, none⟩) 1 1 w4)) ?_
  rintro _ w5 ⟨rfl, x5⟩
  have h2 := n2.has.lt
  have s3 := x3.size
  have hb4 := n4.num
  refine WU.stp0 rfl rfl (stp_store_whole rfl rfl rfl rfl) ?_
  rintro _ w6 u6
  (repeat (first
      | (guard_target =~ gU _; first
          | (guard_target =~ gU []; first | refine WU.nilk ?_ )
          )
      | (guard_target =~ gW .ret; refine W.ret ?_)
      ))
  exact finc (.inl rfl) rfl rfl ⟨b4, rfl, u6.keep inferInstance (by omega), by omega, u6.ext (n1.ext.trans (n2.ext.trans (x3.trans (n4.ext.trans x5)))) (by omega)⟩
theorem c_channel (m k n c : Int) (vr : Bool) (a : Option Addr) (l cp : Nat) (nm tg : ByteArray) (em : Bool) (w : World) :
    Calls Tryz.prog 25 #[.int .i64 m, tyv k n c vr (.slice a l cp) nm tg em] w
      (Ret fun r w' => ∃ b, r = tyv 6 m 0 false (.slice (some ⟨b, 0, none⟩) 1 1) E0 E0 false ∧ Has w' b (.cells (tyl k n c vr (.slice a l cp) E0 E0 false).toArray 27) ∧ w.heap.size ≤ b ∧ Ext w w') := by
  refine W.enter (args := [.int .i64 m, tyv k n c vr (.slice a l cp) nm tg em]) Tryz.func25 rfl Tryz.ntmps25 rfl rfl ?_
  (repeat (first
      | (guard_target =~ gW (.seq _ _); refine W.seq ?_)
      | (guard_target =~ gW (.region _ _ false); refine W.reg ?_)
      ))
  refine WU.stp rfl rfl rfl (by first | exact stp_box rfl rfl | exact stp_box1 rfl rfl) ?_
  rintro _ w1 ⟨b1, rfl, n1⟩
  refine WU.stp rfl rfl rfl stp_alloc ?_
  rintro _ w2 ⟨b2, rfl, n2⟩
  have hb := n1.num
  have hb2 := n2.num
  have hs := n1.size
  (repeat (first
      | (guard_target =~ gU _; first
          | (guard_target =~ gU []; first | refine WU.nilk ?_ )
          | refine WU.yld rfl rfl rfl (by first | (guard_target =~ gY (.move _); exact ze rfl)  | (guard_target =~ gY (.load _ _); first  | exact zb rfl)                   ) ?_
          )
      | (guard_target =~ gW (.seq _ _); refine W.seq ?_)
      | (guard_target =~ gW (.region _ _ false); refine W.reg ?_)
      ))
  refine WU.stp rfl rfl rfl (stp_call rfl (c_element k n c vr a l cp nm tg em w2)) ?_
  rintro _ w3 ⟨rfl, x3⟩
  refine WU.stp rfl rfl rfl (stp_buildSlice rfl rfl rfl rfl rfl) ?_
  rintro _ w4 ⟨b4, rfl, n4⟩
  refine WU.stp rfl rfl rfl (stp_call rfl (c_of 6 m (some ⟨b4, 0, none⟩) 1 1 w4)) ?_
  rintro _ w5 ⟨rfl, x5⟩
  have h2 := n2.has.lt
  have s3 := x3.size
  have hb4 := n4.num
  refine WU.stp0 rfl rfl (stp_store_whole rfl rfl rfl rfl) ?_
  rintro _ w6 u6
  (repeat (first
      | (guard_target =~ gU _; first
          | (guard_target =~ gU []; first | refine WU.nilk ?_ )
          )
      | (guard_target =~ gW .ret; refine W.ret ?_)
      ))
  exact finc (.inl rfl) rfl rfl ⟨b4, rfl, u6.keep inferInstance (by omega), by omega, u6.ext (n1.ext.trans (n2.ext.trans (x3.trans (n4.ext.trans x5)))) (by omega)⟩
theorem c_original (n : Int) (w : World) :
    Calls Tryz.prog 12 #[.int .i64 n] w (Ret fun r w' => r = .int .i64 (if n = 18 then 7 else if n = 19 then 4 else n) ∧ w = w') := by
  by_cases h1 : n = 18
  · subst h1
    refine W.enter (args := [.int .i64 18]) Tryz.func12 rfl Tryz.ntmps12 rfl rfl ?_
    (repeat (first
        | (guard_target =~ gU _; first
            | (guard_target =~ gU []; first | refine WU.nilk ?_ )
            | refine WU.yld rfl rfl rfl (by first | (guard_target =~ gY (.move _); exact ze rfl) | (guard_target =~ gY (.assign _); exact yf rfl)          | (guard_target =~ gY (.binOp .eql _ _ _ _); first | exact yl rfl rfl          )          ) ?_
            )
        | (guard_target =~ gW (.seq _ _); refine W.seq ?_)
        | (guard_target =~ gW (.region _ _ false); refine W.reg ?_)
        | (guard_target =~ gW (.cond _ _ _); first | refine W.cond_t rfl ?_ )
        | (guard_target =~ gW (.block _ _); refine W.block ?_)
        | (guard_target =~ gW .ret; refine W.ret ?_)
        | (guard_target =~ gT .ret; refine thn_ret ?_)
        | (guard_target =~ gI .ret; refine inb_ret ?_)))
    exact fin1 (.inl rfl) rfl rfl ⟨by simp, rfl⟩
  by_cases h2 : n = 19
  · subst h2
    refine W.enter (args := [.int .i64 19]) Tryz.func12 rfl Tryz.ntmps12 rfl rfl ?_
    (repeat (first
        | (guard_target =~ gU _; first
            | (guard_target =~ gU []; first | refine WU.nilk ?_ )
            | refine WU.yld rfl rfl rfl (by first | (guard_target =~ gY (.move _); exact ze rfl) | (guard_target =~ gY (.assign _); exact yf rfl)          | (guard_target =~ gY (.binOp .eql _ _ _ _); first | exact yl rfl rfl          )          ) ?_
            )
        | (guard_target =~ gW (.seq _ _); refine W.seq ?_)
        | (guard_target =~ gW (.region _ _ false); refine W.reg ?_)
        | (guard_target =~ gW (.cond _ _ _); first | refine W.cond_t rfl ?_ | refine W.cond_f rfl ?_)
        | (guard_target =~ gW (.block _ _); refine W.block ?_)
        | (guard_target =~ gW .ret; refine W.ret ?_)
        | (guard_target =~ gT .ret; refine thn_ret ?_)
        | (guard_target =~ gI .ret; refine inb_ret ?_)))
    exact fin1 (.inl rfl) rfl rfl ⟨by simp, rfl⟩
  have e1 : (n == 18) = false := by simpa using h1
  have e2 : (n == 19) = false := by simpa using h2
  refine W.enter (args := [.int .i64 n]) Tryz.func12 rfl Tryz.ntmps12 rfl rfl ?_
  (repeat (first
      | (guard_target =~ gU _; first
          | (guard_target =~ gU []; first | refine WU.nilk ?_ )
          | refine WU.yld rfl rfl rfl (by first | (guard_target =~ gY (.move _); exact ze rfl) | (guard_target =~ gY (.assign _); exact yf rfl)          | (guard_target =~ gY (.binOp .eql _ _ _ _); first | exact yl rfl rfl          )          ) ?_
          )
      | (guard_target =~ gW (.seq _ _); refine W.seq ?_)
      | (guard_target =~ gW (.region _ _ false); refine W.reg ?_)
      | (guard_target =~ gW (.block _ _); refine W.block ?_)
      ))
  rw [e1]
  (repeat (first
      | (guard_target =~ gU _; first
          | (guard_target =~ gU []; first | refine WU.nilk ?_ )
          | refine WU.yld rfl rfl rfl (by first  | (guard_target =~ gY (.assign _); exact yf rfl)          | (guard_target =~ gY (.binOp .eql _ _ _ _); first | exact yl rfl rfl          )          ) ?_
          )
      | (guard_target =~ gW (.seq _ _); refine W.seq ?_)
      | (guard_target =~ gW (.region _ _ false); refine W.reg ?_)
      | (guard_target =~ gW (.cond _ _ _); first  | refine W.cond_f rfl ?_)
      ))
  rw [e2]
  (repeat (first
      | (guard_target =~ gU _; first
          | (guard_target =~ gU []; first | refine WU.nilk ?_ )
          | refine WU.yld rfl rfl rfl (by first | (guard_target =~ gY (.move _); exact ze rfl) | (guard_target =~ gY (.assign _); exact yf rfl)                    ) ?_
          )
      | (guard_target =~ gW (.seq _ _); refine W.seq ?_)
      | (guard_target =~ gW (.region _ _ false); refine W.reg ?_)
      | (guard_target =~ gW (.cond _ _ _); first  | refine W.cond_f rfl ?_)
      | (guard_target =~ gW .skip; refine W.skip ?_)
      | (guard_target =~ gW .ret; refine W.ret ?_)
      ))
  exact fin1 (.inl rfl) rfl rfl ⟨by rw [if_neg h1, if_neg h2], rfl⟩
end Go.Proofs.YtnmodbmaokilaaaGreatDoor

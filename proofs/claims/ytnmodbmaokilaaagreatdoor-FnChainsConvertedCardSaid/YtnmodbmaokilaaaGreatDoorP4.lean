/- The plain family, part 4: plain. -/
import Derived.Test.YtnmodbmaokilaaaGreatDoorP3
namespace Go.Proofs.YtnmodbmaokilaaaGreatDoor
open Go Go.Kd
set_option maxRecDepth 100000

def PT.ok : PT → Prop
  | .basic n => 0 ≤ n ∧ n < 20
  | .ptr t => t.ok
  | .slice t => t.ok
  | .array n t => (0 ≤ n ∧ n ≤ 9223372036854775807) ∧ t.ok
  | .chan d t => (0 ≤ d ∧ d < 3) ∧ t.ok
  | .map k t => k.ok ∧ t.ok
def PT.gt : PT → GT
  | .basic n => .basic (orig n + 1)
  | .ptr t => .ptr t.gt
  | .slice t => .slice t.gt
  | .array n t => .array n t.gt
  | .chan d t => .chan d t.gt
  | .map k t => .map k.gt t.gt

theorem c_plain {x : Nat} {t : PT} {w : World} {k n : Int} {s : Value} (h : DRep w x t k n s) : ∀ (nm tg : ByteArray) (em : Bool) (w' : World), Ext w w' → t.ok →
    Calls Tryz.prog 20 #[tyv k n 0 false s nm tg em] w' (Ret fun r w2 => Rep w2 r t.gt ∧ Ext w' w2) := by
  induction h with
  | basic m =>
    intro nm tg em w' hx hok
    have hm : 1 ≤ orig m + 1 ∧ orig m + 1 ≤ 18 := by unfold PT.ok at hok; unfold orig; split <;> (try split) <;> omega
    refine W.enter (args := [tyv 0 m 0 false (.slice none 0 0) nm tg em]) Tryz.func20 rfl Tryz.ntmps20 rfl rfl ?_
    (repeat (first
        | (guard_target =~ gW (.seq _ _); refine W.seq ?_)
        | (guard_target =~ gW (.region _ _ false); refine W.reg ?_)
        ))
    refine WU.stp rfl rfl rfl (by first | exact stp_box rfl rfl | exact stp_box1 rfl rfl) ?_
    rintro _ w1 ⟨b1, rfl, n1⟩
    (repeat (first
        | (guard_target =~ gU _; first
            | (guard_target =~ gU []; first | refine WU.nilk ?_ )
            | refine WU.yld rfl rfl rfl (by first | (guard_target =~ gY (.assign _); exact yf rfl) | (guard_target =~ gY (.load _ _); first | exact za rfl rfl ) | (guard_target =~ gY (.fieldAddr _ _ _); exact yt rfl) | (guard_target =~ gY (.binOp .eql _ _ _ _); first | exact yl rfl rfl ) ) ?_
            )
        | (guard_target =~ gW (.seq _ _); refine W.seq ?_)
        | (guard_target =~ gW (.region _ _ false); refine W.reg ?_)
        | (guard_target =~ gW (.cond _ _ _); first | refine W.cond_t rfl ?_ )
        | (guard_target =~ gW (.block _ _); refine W.block ?_)
        ))
    refine WU.stp rfl rfl rfl (stp_call rfl (c_plainBasic m w1 hok)) ?_
    rintro _ w2 ⟨rfl, rfl⟩
    refine WU.stp rfl rfl rfl (stp_call rfl (c_Typ (orig m + 1) w1 hm)) ?_
    rintro _ w3 ⟨b, nm2, rfl, hb, x3⟩
    (repeat (first
        | (guard_target =~ gU _; first
            | (guard_target =~ gU []; first | refine WU.nilk ?_ )
            | refine WU.yld rfl rfl rfl (by first | (guard_target =~ gY (.assign _); exact yf rfl) | (guard_target =~ gY (.makeInterface _ _); exact zd rfl rfl) ) ?_
            )
        | (guard_target =~ gW .ret; refine W.ret ?_)
        | (guard_target =~ gT .ret; refine thn_ret ?_)
        | (guard_target =~ gI .ret; refine inb_ret ?_)))
    exact fin1 (.inl rfl) rfl rfl ⟨.basic _ hm hb, n1.ext.trans x3⟩
  | ptr h0 h1 hd ih =>
    rename_i k n a l c b nm1 tg1 em1
    intro nm tg em w' hx hok
    have hb := h1.ext' hx
    refine W.enter (args := [tyv 2 0 0 false (.slice (some ⟨b, 0, none⟩) 1 1) nm tg em]) Tryz.func20 rfl Tryz.ntmps20 rfl rfl ?_
    (repeat (first
        | (guard_target =~ gW (.seq _ _); refine W.seq ?_)
        | (guard_target =~ gW (.region _ _ false); refine W.reg ?_)
        ))
    refine WU.stp rfl rfl rfl (by first | exact stp_box rfl rfl | exact stp_box1 rfl rfl) ?_
    rintro _ w1 ⟨b1, rfl, n1⟩
    (repeat (first
        | (guard_target =~ gU _; first
            | (guard_target =~ gU []; first | refine WU.nilk ?_ )
            | refine WU.yld rfl rfl rfl (by first | (guard_target =~ gY (.assign _); exact yf rfl) | (guard_target =~ gY (.load _ _); first | exact za rfl rfl | exact zb rfl) | (guard_target =~ gY (.fieldAddr _ _ _); exact yt rfl) | (guard_target =~ gY (.binOp .eql _ _ _ _); first | exact yl rfl rfl ) | (guard_target =~ gY (.indexAddr _ _ _); exact yw rfl rfl (by omega) (by omega))) ?_
            )
        | (guard_target =~ gW (.seq _ _); refine W.seq ?_)
        | (guard_target =~ gW (.region _ _ false); refine W.reg ?_)
        | (guard_target =~ gW (.cond _ _ _); first | refine W.cond_t rfl ?_ | refine W.cond_f rfl ?_)
        | (guard_target =~ gW (.block _ _); refine W.block ?_)
        ))
    refine WU.stp rfl rfl rfl (stp_call rfl (ih nm1 tg1 em1 w1 (hx.trans n1.ext) hok)) ?_
    rintro _ w2 ⟨hr, x2⟩
    obtain ⟨bv, rfl, hp⟩ := hr.shape
    refine WU.stp rfl rfl rfl (stp_call rfl (c_NewPointer _ _ w2)) ?_
    rintro _ w3 ⟨b3, rfl, hb3, x3⟩
    (repeat (first
        | (guard_target =~ gU _; first
            | (guard_target =~ gU []; first | refine WU.nilk ?_ )
            | refine WU.yld rfl rfl rfl (by first | (guard_target =~ gY (.assign _); exact yf rfl) | (guard_target =~ gY (.makeInterface _ _); exact zd rfl rfl) ) ?_
            )
        | (guard_target =~ gW .ret; refine W.ret ?_)
        | (guard_target =~ gT .ret; refine thn_ret ?_)
        | (guard_target =~ gI .ret; refine inb_ret ?_)))
    exact fin1 (.inl rfl) rfl rfl ⟨.ptr hb3 (hr.ext x3), n1.ext.trans (x2.trans x3)⟩
  | slice h0 h1 hd ih =>
    rename_i k n a l c b nm1 tg1 em1
    intro nm tg em w' hx hok
    have hb := h1.ext' hx
    refine W.enter (args := [tyv 3 0 0 false (.slice (some ⟨b, 0, none⟩) 1 1) nm tg em]) Tryz.func20 rfl Tryz.ntmps20 rfl rfl ?_
    (repeat (first
        | (guard_target =~ gW (.seq _ _); refine W.seq ?_)
        | (guard_target =~ gW (.region _ _ false); refine W.reg ?_)
        ))
    refine WU.stp rfl rfl rfl (by first | exact stp_box rfl rfl | exact stp_box1 rfl rfl) ?_
    rintro _ w1 ⟨b1, rfl, n1⟩
    (repeat (first
        | (guard_target =~ gU _; first
            | (guard_target =~ gU []; first | refine WU.nilk ?_ )
            | refine WU.yld rfl rfl rfl (by first | (guard_target =~ gY (.assign _); exact yf rfl) | (guard_target =~ gY (.load _ _); first | exact za rfl rfl | exact zb rfl) | (guard_target =~ gY (.fieldAddr _ _ _); exact yt rfl) | (guard_target =~ gY (.binOp .eql _ _ _ _); first | exact yl rfl rfl ) | (guard_target =~ gY (.indexAddr _ _ _); exact yw rfl rfl (by omega) (by omega))) ?_
            )
        | (guard_target =~ gW (.seq _ _); refine W.seq ?_)
        | (guard_target =~ gW (.region _ _ false); refine W.reg ?_)
        | (guard_target =~ gW (.cond _ _ _); first | refine W.cond_t rfl ?_ | refine W.cond_f rfl ?_)
        | (guard_target =~ gW (.block _ _); refine W.block ?_)
        ))
    refine WU.stp rfl rfl rfl (stp_call rfl (ih nm1 tg1 em1 w1 (hx.trans n1.ext) hok)) ?_
    rintro _ w2 ⟨hr, x2⟩
    obtain ⟨bv, rfl, hp⟩ := hr.shape
    refine WU.stp rfl rfl rfl (stp_call rfl (c_NewSlice _ _ w2)) ?_
    rintro _ w3 ⟨b3, rfl, hb3, x3⟩
    (repeat (first
        | (guard_target =~ gU _; first
            | (guard_target =~ gU []; first | refine WU.nilk ?_ )
            | refine WU.yld rfl rfl rfl (by first | (guard_target =~ gY (.assign _); exact yf rfl) | (guard_target =~ gY (.makeInterface _ _); exact zd rfl rfl) ) ?_
            )
        | (guard_target =~ gW .ret; refine W.ret ?_)
        | (guard_target =~ gT .ret; refine thn_ret ?_)
        | (guard_target =~ gI .ret; refine inb_ret ?_)))
    exact fin1 (.inl rfl) rfl rfl ⟨.slice hb3 (hr.ext x3), n1.ext.trans (x2.trans x3)⟩
  | array h0 h1 hd ih =>
    rename_i k n a l c b nm1 tg1 em1 m
    intro nm tg em w' hx hok
    obtain ⟨hm, hok⟩ := hok
    have hb := h1.ext' hx
    refine W.enter (args := [tyv 4 m 0 false (.slice (some ⟨b, 0, none⟩) 1 1) nm tg em]) Tryz.func20 rfl Tryz.ntmps20 rfl rfl ?_
    (repeat (first
        | (guard_target =~ gW (.seq _ _); refine W.seq ?_)
        | (guard_target =~ gW (.region _ _ false); refine W.reg ?_)
        ))
    refine WU.stp rfl rfl rfl (by first | exact stp_box rfl rfl | exact stp_box1 rfl rfl) ?_
    rintro _ w1 ⟨b1, rfl, n1⟩
    (repeat (first
        | (guard_target =~ gU _; first
            | (guard_target =~ gU []; first | refine WU.nilk ?_ )
            | refine WU.yld rfl rfl rfl (by first | (guard_target =~ gY (.assign _); exact yf rfl) | (guard_target =~ gY (.load _ _); first | exact za rfl rfl ) | (guard_target =~ gY (.fieldAddr _ _ _); exact yt rfl) | (guard_target =~ gY (.binOp .eql _ _ _ _); first | exact yl rfl rfl ) ) ?_
            )
        | (guard_target =~ gW (.seq _ _); refine W.seq ?_)
        | (guard_target =~ gW (.region _ _ false); refine W.reg ?_)
        | (guard_target =~ gW (.cond _ _ _); first | refine W.cond_t rfl ?_ | refine W.cond_f rfl ?_)
        | (guard_target =~ gW (.block _ _); refine W.block ?_)
        ))
    refine W.regD [(0, .q), (1, .q), (2, .q), (3, .q), (5, .q), (6, .q), (4, .l), (7, .l), (8, .q), (9, .q)] (by kernel_rfl) (by kernel_rfl) rfl ?_
    intro w2 x2 _
    (repeat (first
        | refine WD.yld rfl rfl rfl rfl (by first | (guard_target =~ gY (.load _ _); first | exact za rfl rfl | exact zb rfl) | (guard_target =~ gY (.fieldAddr _ _ _); exact yt rfl) | (guard_target =~ gY (.indexAddr _ _ _); exact yw rfl rfl (by omega) (by omega))) ?_
        ))
    refine WD.stp rfl rfl rfl rfl (stp_call rfl (ih nm1 tg1 em1 w2 (hx.trans (n1.ext.trans x2)) hok)) ?_
    rintro _ w3 ⟨hr, x3⟩
    refine ⟨by first | assumption | exact Ext.rfl' _ | infer_instance, ?_⟩
    obtain ⟨bv, rfl, hp⟩ := hr.shape
    refine WD.stp rfl rfl rfl rfl (stp_call rfl (c_NewArray _ _ m w3)) ?_
    rintro _ w4 ⟨b4, rfl, hb4, x4⟩
    refine ⟨by first | assumption | exact Ext.rfl' _ | infer_instance, ?_⟩
    (repeat (first
        | (guard_target =~ WD _ _ _ _ [] _ _ _; first | refine WD.nilk ?_ )
        | refine WD.yld rfl rfl rfl rfl (by first | (guard_target =~ gY (.assign _); exact yf rfl) | (guard_target =~ gY (.makeInterface _ _); exact zd rfl rfl) ) ?_
        ))
    (repeat (first
        | (guard_target =~ gW .ret; refine W.ret ?_)
        | (guard_target =~ gT .ret; refine thn_ret ?_)
        | (guard_target =~ gI .ret; refine inb_ret ?_)))
    exact fin1 (.inl rfl) rfl rfl ⟨.array hm.1 hb4 (hr.ext x4), n1.ext.trans (x2.trans (x3.trans x4))⟩
  | chan h0 h1 hd ih =>
    rename_i k n a l c b nm1 tg1 em1 m
    intro nm tg em w' hx hok
    obtain ⟨hm, hok⟩ := hok
    have hb := h1.ext' hx
    refine W.enter (args := [tyv 6 m 0 false (.slice (some ⟨b, 0, none⟩) 1 1) nm tg em]) Tryz.func20 rfl Tryz.ntmps20 rfl rfl ?_
    (repeat (first
        | (guard_target =~ gW (.seq _ _); refine W.seq ?_)
        | (guard_target =~ gW (.region _ _ false); refine W.reg ?_)
        ))
    refine WU.stp rfl rfl rfl (by first | exact stp_box rfl rfl | exact stp_box1 rfl rfl) ?_
    rintro _ w1 ⟨b1, rfl, n1⟩
    (repeat (first
        | (guard_target =~ gU _; first
            | (guard_target =~ gU []; first | refine WU.nilk ?_ )
            | refine WU.yld rfl rfl rfl (by first | (guard_target =~ gY (.assign _); exact yf rfl) | (guard_target =~ gY (.load _ _); first | exact za rfl rfl ) | (guard_target =~ gY (.fieldAddr _ _ _); exact yt rfl) | (guard_target =~ gY (.binOp .eql _ _ _ _); first | exact yl rfl rfl ) ) ?_
            )
        | (guard_target =~ gW (.seq _ _); refine W.seq ?_)
        | (guard_target =~ gW (.region _ _ false); refine W.reg ?_)
        | (guard_target =~ gW (.cond _ _ _); first | refine W.cond_t rfl ?_ | refine W.cond_f rfl ?_)
        | (guard_target =~ gW (.block _ _); refine W.block ?_)
        ))
    refine W.regD [(0, .q), (1, .q), (3, .q), (4, .q), (5, .q), (6, .q), (2, .l), (7, .l), (8, .l), (9, .q), (10, .q)] (by kernel_rfl) (by kernel_rfl) rfl ?_
    intro w2 x2 _
    (repeat (first
        | refine WD.yld rfl rfl rfl rfl (by first | (guard_target =~ gY (.load _ _); first | exact za rfl rfl | exact zb rfl) | (guard_target =~ gY (.fieldAddr _ _ _); exact yt rfl) | (guard_target =~ gY (.indexAddr _ _ _); exact yw rfl rfl (by omega) (by omega))) ?_
        ))
    refine WD.stp rfl rfl rfl rfl (stp_call rfl (c_direction m w2 hm)) ?_
    rintro _ w3 ⟨rfl, rfl⟩
    refine ⟨by first | assumption | exact Ext.rfl' _ | infer_instance, ?_⟩
    refine WD.stp rfl rfl rfl rfl (stp_call rfl (ih nm1 tg1 em1 w2 (hx.trans (n1.ext.trans x2)) hok)) ?_
    rintro _ w3 ⟨hr, x3⟩
    refine ⟨by first | assumption | exact Ext.rfl' _ | infer_instance, ?_⟩
    obtain ⟨bv, rfl, hp⟩ := hr.shape
    refine WD.stp rfl rfl rfl rfl (stp_call rfl (c_NewChan _ _ m w3)) ?_
    rintro _ w4 ⟨b4, rfl, hb4, x4⟩
    refine ⟨by first | assumption | exact Ext.rfl' _ | infer_instance, ?_⟩
    (repeat (first
        | (guard_target =~ WD _ _ _ _ [] _ _ _; first | refine WD.nilk ?_ )
        | refine WD.yld rfl rfl rfl rfl (by first | (guard_target =~ gY (.assign _); exact yf rfl) | (guard_target =~ gY (.makeInterface _ _); exact zd rfl rfl) ) ?_
        ))
    (repeat (first
        | (guard_target =~ gW .ret; refine W.ret ?_)
        | (guard_target =~ gT .ret; refine thn_ret ?_)
        | (guard_target =~ gI .ret; refine inb_ret ?_)))
    exact fin1 (.inl rfl) rfl rfl ⟨.chan hb4 (hr.ext x4), n1.ext.trans (x2.trans (x3.trans x4))⟩
  | map h0 h1 hd1 hd2 ih1 ih2 =>
    rename_i k n a l c nm1 tg1 em1 t' k' n' a' l' c' nm2 tg2 em2 b
    intro nm tg em w' hx hok
    obtain ⟨hok1, hok2⟩ := hok
    have hb := h1.ext' hx
    refine W.enter (args := [tyv 5 0 0 false (.slice (some ⟨b, 0, none⟩) 2 2) nm tg em]) Tryz.func20 rfl Tryz.ntmps20 rfl rfl ?_
    (repeat (first
        | (guard_target =~ gW (.seq _ _); refine W.seq ?_)
        | (guard_target =~ gW (.region _ _ false); refine W.reg ?_)
        ))
    refine WU.stp rfl rfl rfl (by first | exact stp_box rfl rfl | exact stp_box1 rfl rfl) ?_
    rintro _ w1 ⟨b1, rfl, n1⟩
    (repeat (first
        | (guard_target =~ gU _; first
            | (guard_target =~ gU []; first | refine WU.nilk ?_ )
            | refine WU.yld rfl rfl rfl (by first | (guard_target =~ gY (.assign _); exact yf rfl) | (guard_target =~ gY (.load _ _); first | exact za rfl rfl ) | (guard_target =~ gY (.fieldAddr _ _ _); exact yt rfl) | (guard_target =~ gY (.binOp .eql _ _ _ _); first | exact yl rfl rfl ) ) ?_
            )
        | (guard_target =~ gW (.seq _ _); refine W.seq ?_)
        | (guard_target =~ gW (.region _ _ false); refine W.reg ?_)
        | (guard_target =~ gW (.cond _ _ _); first | refine W.cond_f rfl ?_)
        | (guard_target =~ gW (.block _ _); refine W.block ?_)
        | (guard_target =~ gW .skip; refine W.skip ?_)
        ))
    refine W.regD [(0, .q), (1, .q), (2, .q), (3, .q), (5, .q), (6, .q), (7, .q), (8, .q), (4, .l), (9, .l), (10, .l), (11, .q), (12, .q)] (by kernel_rfl) (by kernel_rfl) rfl ?_
    intro w2 x2 _
    (repeat (first
        | refine WD.yld rfl rfl rfl rfl (by first | (guard_target =~ gY (.load _ _); first | exact za rfl rfl ) | (guard_target =~ gY (.fieldAddr _ _ _); exact yt rfl) | (guard_target =~ gY (.indexAddr _ _ _); exact yw rfl rfl (by omega) (by omega))) ?_
        ))
    refine WD.yld rfl rfl rfl rfl (yld_load_part (l := tyl k n 0 false (.slice a l c) nm1 tg1 em1) rfl (part_l _ _ rfl)) ?_
    (repeat (first
        | refine WD.yld rfl rfl rfl rfl (by first | (guard_target =~ gY (.load _ _); first | exact za rfl rfl ) | (guard_target =~ gY (.fieldAddr _ _ _); exact yt rfl) | (guard_target =~ gY (.indexAddr _ _ _); exact yw rfl rfl (by omega) (by omega))) ?_
        ))
    refine WD.yld rfl rfl rfl rfl (yld_load_part (l := tyl k' n' 0 false (.slice a' l' c') nm2 tg2 em2) rfl (part_r _ _ rfl)) ?_
    refine WD.stp rfl rfl rfl rfl (stp_call rfl (ih1 nm1 tg1 em1 w2 (hx.trans (n1.ext.trans x2)) hok1)) ?_
    rintro _ w3 ⟨hr, x3⟩
    refine ⟨by first | assumption | exact Ext.rfl' _ | infer_instance, ?_⟩
    refine WD.stp rfl rfl rfl rfl (stp_call rfl (ih2 nm2 tg2 em2 w3 (hx.trans (n1.ext.trans (x2.trans x3))) hok2)) ?_
    rintro _ w4 ⟨hr2, x4⟩
    refine ⟨by first | assumption | exact Ext.rfl' _ | infer_instance, ?_⟩
    obtain ⟨bv, rfl, hp⟩ := hr.shape
    obtain ⟨bv2, rfl, hp2⟩ := hr2.shape
    refine WD.stp rfl rfl rfl rfl (stp_call rfl (c_NewMap _ _ _ _ w4)) ?_
    rintro _ w5 ⟨b5, rfl, hb5, x5⟩
    refine ⟨by first | assumption | exact Ext.rfl' _ | infer_instance, ?_⟩
    (repeat (first
        | (guard_target =~ WD _ _ _ _ [] _ _ _; first | refine WD.nilk ?_ )
        | refine WD.yld rfl rfl rfl rfl (by first | (guard_target =~ gY (.assign _); exact yf rfl) | (guard_target =~ gY (.makeInterface _ _); exact zd rfl rfl) ) ?_
        ))
    (repeat (first
        | (guard_target =~ gW .ret; refine W.ret ?_)
        ))
    exact fin1 (.inl rfl) rfl rfl ⟨.map hb5 (hr.ext (x4.trans x5)) (hr2.ext x5), n1.ext.trans (x2.trans (x3.trans (x4.trans x5)))⟩
end Go.Proofs.YtnmodbmaokilaaaGreatDoor

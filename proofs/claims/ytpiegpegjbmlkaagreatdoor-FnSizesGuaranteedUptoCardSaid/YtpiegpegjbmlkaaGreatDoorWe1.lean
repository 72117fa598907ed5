/- The walks and the plain laws, part 1. -/
import Derived.Test.YtpiegpegjbmlkaaGreatDoorZ6
namespace Go.Proofs.YtpiegpegjbmlkaaGreatDoor.Law
open Go Go.Kd
set_option maxRecDepth 100000

set_option maxHeartbeats 4000000 in
theorem c_FnSizesGuaranteed  {i0 : Int} {q1 : Bool} {i2 : Int} {w : World} (hp : Prp w) (hbz : Bsz w) (_ : (-9223372036854775808 : Int) ≤ i0 ∧ i0 ≤ 9223372036854775807) (_ : (-9223372036854775808 : Int) ≤ i2 ∧ i2 ≤ 9223372036854775807) :
    Calls Tryz.prog 9 #[.int .i64 i0, .bool q1, .int .i64 i2] w (Ret fun r w' => r = .bool true ∧ Ext w w') := by
  have lw : LW [] none 0 w := ⟨hp, dsv_nil _⟩
  have x0 : Ext w w := Ext.rfl' w
  refine W.enter (args := [.int .i64 i0, .bool q1, .int .i64 i2]) Tryz.func9 rfl Tryz.ntmps9 rfl rfl ?_
  refine zst ?_
  refine WU.stp rfl rfl rfl (stp_call rfl (c_place i0 22 w (by omega))) ?_
  rintro _ _ ⟨rfl, rfl⟩
  have hm0 : 0 ≤ i0 % 22 := by omega
  have hm1 : i0 % 22 < 22 := by omega
  generalize i0 % 22 = m at hm0 hm1
  refine zst ?_
  refine WU.stp rfl rfl rfl (stp_call rfl (c_sizes q1 i2 w)) ?_
  rintro _ w1 ⟨wd, mx, hW, rfl, x1⟩
  replace lw := lw.ext x1
  replace hbz := hbz.ext x1
  replace x0 := x0.trans x1
  have hwd4 := hW.wd
  refine zst ?_
  refine WU.stp rfl rfl rfl stp_alloc ?_
  rintro _ w2 ⟨b2, rfl, n2⟩
  refine WU.stp0 rfl rfl (stp_store_whole rfl rfl rfl rfl) ?_
  rintro _ w3 u3
  have is : szb w3 b2 wd mx := u3.has
  have y3 : Ext w1 w3 := (u3.ofNew n2).ext
  clear u3 n2
  replace lw := lw.ext y3
  replace hbz := hbz.ext y3
  replace x0 := x0.trans y3
  refine zst ?_
  refine W.regD [(0, .q), (1, .q), (2, .q), (3, .q), (4, .q), (5, .l), (6, .l), (7, .q)] (by kernel_rfl) (by kernel_rfl) rfl ?_
  intro w4 x4 _
  replace lw := lw.ext x4
  replace hbz := hbz.ext x4
  replace is := is.ext' x4
  replace x0 := x0.trans x4
  refine zsd ?_
  refine WD.stp rfl rfl rfl rfl (stp_call rfl (c_basic m w4)) ?_
  rintro _ w5 ⟨rfl, x5⟩
  refine ⟨by first | assumption | exact Ext.rfl' _ | infer_instance, ?_⟩
  replace lw := lw.ext x5
  replace hbz := hbz.ext x5
  replace is := is.ext' x5
  replace x0 := x0.trans x5
  refine zsd ?_
  refine WD.stp rfl rfl rfl rfl (stp_call rfl (t_basSize lw.hp hbz hW hm0 hm1)) ?_
  rintro _ w6 ⟨⟨z, rfl, k1, k2⟩, x6⟩
  refine ⟨by first | assumption | exact Ext.rfl' _ | infer_instance, ?_⟩
  replace lw := lw.ext x6
  replace hbz := hbz.ext x6
  replace is := is.ext' x6
  replace x0 := x0.trans x6
  refine zsd ?_
  have hm : m = 0 ∨ m = 1 ∨ m = 2 ∨ m = 3 ∨ m = 4 ∨ m = 5 ∨ m = 6 ∨ m = 7 ∨ m = 8 ∨ m = 9 ∨ m = 10 ∨ m = 11 ∨ m = 12 ∨ m = 13 ∨ m = 14 ∨ m = 15 ∨ m = 16 ∨ m = 17 ∨ m = 18 ∨ m = 19 ∨ m = 20 ∨ m = 21 := by omega
  refine zst ?_
  refine WU.stp rfl rfl rfl (stp_call rfl (c_original m w6)) ?_
  rintro _ _ ⟨rfl, rfl⟩
  rcases hm with rfl | rfl | rfl | rfl | rfl | rfl | rfl | rfl | rfl | rfl | rfl | rfl | rfl | rfl | rfl | rfl | rfl | rfl | rfl | rfl | rfl | rfl
  · rw [show (if (0 : Int) = 18 then (7 : Int) else if (0 : Int) = 19 then 4 else 0) = 0 by decide]
    have k3 := k1 (by decide)
    simp [sBasic] at k3
    refine zst ?_
    exact fin1 (.inl rfl) rfl rfl ⟨by simp; omega, x0⟩
  · rw [show (if (1 : Int) = 18 then (7 : Int) else if (1 : Int) = 19 then 4 else 1) = 1 by decide]
    have k3 := k1 (by decide)
    simp [sBasic] at k3
    refine zst ?_
    exact fin1 (.inl rfl) rfl rfl ⟨by simp; omega, x0⟩
  · rw [show (if (2 : Int) = 18 then (7 : Int) else if (2 : Int) = 19 then 4 else 2) = 2 by decide]
    have k3 := k1 (by decide)
    simp [sBasic] at k3
    subst k3
    refine zst ?_
    exact fin1 (.inl rfl) rfl rfl ⟨by rfl, x0⟩
  · rw [show (if (3 : Int) = 18 then (7 : Int) else if (3 : Int) = 19 then 4 else 3) = 3 by decide]
    have k3 := k1 (by decide)
    simp [sBasic] at k3
    subst k3
    refine zst ?_
    exact fin1 (.inl rfl) rfl rfl ⟨by rfl, x0⟩
  · rw [show (if (4 : Int) = 18 then (7 : Int) else if (4 : Int) = 19 then 4 else 4) = 4 by decide]
    have k3 := k1 (by decide)
    simp [sBasic] at k3
    subst k3
    refine zst ?_
    exact fin1 (.inl rfl) rfl rfl ⟨by rfl, x0⟩
  · rw [show (if (5 : Int) = 18 then (7 : Int) else if (5 : Int) = 19 then 4 else 5) = 5 by decide]
    have k3 := k1 (by decide)
    simp [sBasic] at k3
    subst k3
    refine zst ?_
    exact fin1 (.inl rfl) rfl rfl ⟨by rfl, x0⟩
  · rw [show (if (6 : Int) = 18 then (7 : Int) else if (6 : Int) = 19 then 4 else 6) = 6 by decide]
    have k3 := k1 (by decide)
    simp [sBasic] at k3
    refine zst ?_
    exact fin1 (.inl rfl) rfl rfl ⟨by simp; omega, x0⟩
  · rw [show (if (7 : Int) = 18 then (7 : Int) else if (7 : Int) = 19 then 4 else 7) = 7 by decide]
    have k3 := k1 (by decide)
    simp [sBasic] at k3
    subst k3
    refine zst ?_
    exact fin1 (.inl rfl) rfl rfl ⟨by rfl, x0⟩
  · rw [show (if (8 : Int) = 18 then (7 : Int) else if (8 : Int) = 19 then 4 else 8) = 8 by decide]
    have k3 := k1 (by decide)
    simp [sBasic] at k3
    subst k3
    refine zst ?_
    exact fin1 (.inl rfl) rfl rfl ⟨by rfl, x0⟩
  · rw [show (if (9 : Int) = 18 then (7 : Int) else if (9 : Int) = 19 then 4 else 9) = 9 by decide]
    have k3 := k1 (by decide)
    simp [sBasic] at k3
    subst k3
    refine zst ?_
    exact fin1 (.inl rfl) rfl rfl ⟨by rfl, x0⟩
  · rw [show (if (10 : Int) = 18 then (7 : Int) else if (10 : Int) = 19 then 4 else 10) = 10 by decide]
    have k3 := k1 (by decide)
    simp [sBasic] at k3
    subst k3
    refine zst ?_
    exact fin1 (.inl rfl) rfl rfl ⟨by rfl, x0⟩
  · rw [show (if (11 : Int) = 18 then (7 : Int) else if (11 : Int) = 19 then 4 else 11) = 11 by decide]
    have k3 := k1 (by decide)
    simp [sBasic] at k3
    refine zst ?_
    exact fin1 (.inl rfl) rfl rfl ⟨by simp; omega, x0⟩
  · rw [show (if (12 : Int) = 18 then (7 : Int) else if (12 : Int) = 19 then 4 else 12) = 12 by decide]
    have k3 := k1 (by decide)
    simp [sBasic] at k3
    subst k3
    refine zst ?_
    exact fin1 (.inl rfl) rfl rfl ⟨by rfl, x0⟩
  · rw [show (if (13 : Int) = 18 then (7 : Int) else if (13 : Int) = 19 then 4 else 13) = 13 by decide]
    have k3 := k1 (by decide)
    simp [sBasic] at k3
    subst k3
    refine zst ?_
    exact fin1 (.inl rfl) rfl rfl ⟨by rfl, x0⟩
  · rw [show (if (14 : Int) = 18 then (7 : Int) else if (14 : Int) = 19 then 4 else 14) = 14 by decide]
    have k3 := k1 (by decide)
    simp [sBasic] at k3
    subst k3
    refine zst ?_
    exact fin1 (.inl rfl) rfl rfl ⟨by rfl, x0⟩
  · rw [show (if (15 : Int) = 18 then (7 : Int) else if (15 : Int) = 19 then 4 else 15) = 15 by decide]
    have k3 := k1 (by decide)
    simp [sBasic] at k3
    subst k3
    refine zst ?_
    exact fin1 (.inl rfl) rfl rfl ⟨by rfl, x0⟩
  · rw [show (if (16 : Int) = 18 then (7 : Int) else if (16 : Int) = 19 then 4 else 16) = 16 by decide]
    have k3 := k1 (by decide)
    simp [sBasic] at k3
    refine zst ?_
    exact fin1 (.inl rfl) rfl rfl ⟨by simp; omega, x0⟩
  · rw [show (if (17 : Int) = 18 then (7 : Int) else if (17 : Int) = 19 then 4 else 17) = 17 by decide]
    have k3 := k1 (by decide)
    simp [sBasic] at k3
    refine zst ?_
    exact fin1 (.inl rfl) rfl rfl ⟨by simp; omega, x0⟩
  · rw [show (if (18 : Int) = 18 then (7 : Int) else if (18 : Int) = 19 then 4 else 18) = 7 by decide]
    have k3 := k1 (by decide)
    simp [sBasic] at k3
    subst k3
    refine zst ?_
    exact fin1 (.inl rfl) rfl rfl ⟨by rfl, x0⟩
  · rw [show (if (19 : Int) = 18 then (7 : Int) else if (19 : Int) = 19 then 4 else 19) = 4 by decide]
    have k3 := k1 (by decide)
    simp [sBasic] at k3
    subst k3
    refine zst ?_
    exact fin1 (.inl rfl) rfl rfl ⟨by rfl, x0⟩
  · rw [show (if (20 : Int) = 18 then (7 : Int) else if (20 : Int) = 19 then 4 else 20) = 20 by decide]
    have k3 := k2 (by decide)
    refine zst ?_
    exact fin1 (.inl rfl) rfl rfl ⟨by simp; omega, x0⟩
  · rw [show (if (21 : Int) = 18 then (7 : Int) else if (21 : Int) = 19 then 4 else 21) = 21 by decide]
    have k3 := k2 (by decide)
    refine zst ?_
    exact fin1 (.inl rfl) rfl rfl ⟨by simp; omega, x0⟩
end Go.Proofs.YtpiegpegjbmlkaaGreatDoor.Law

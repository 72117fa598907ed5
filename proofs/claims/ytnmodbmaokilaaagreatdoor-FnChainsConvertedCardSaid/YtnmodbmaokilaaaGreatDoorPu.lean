/- The plain family: the underlying types of plain types. -/
import Derived.Test.YtnmodbmaokilaaaGreatDoorP3
namespace Go.Proofs.YtnmodbmaokilaaaGreatDoor
open Go Go.Kd
set_option maxRecDepth 100000

theorem c_Und_basic (b : Nat) (w : World) : Calls Tryz.prog 215 #[.pointer (some ⟨b, 0, none⟩)] w (Ret fun r w' => r = .iface 50 (.pointer (some ⟨b, 0, none⟩)) ∧ w = w') := by
  refine W.enter (args := [.pointer (some ⟨b, 0, none⟩)]) Tryz.func215 rfl Tryz.ntmps215 rfl rfl ?_
  (repeat (first
      | (guard_target =~ gU _; first
          | (guard_target =~ gU []; first | refine WU.nilk ?_ )
          | refine WU.yld rfl rfl rfl (by first | (guard_target =~ gY (.move _); exact ze rfl) | (guard_target =~ gY (.assign _); exact yf rfl) | (guard_target =~ gY (.makeInterface _ _); exact zd rfl rfl) ) ?_
          )
      | (guard_target =~ gW (.seq _ _); refine W.seq ?_)
      | (guard_target =~ gW (.region _ _ false); refine W.reg ?_)
      | (guard_target =~ gW .ret; refine W.ret ?_)
      ))
  exact fin1 (.inl rfl) rfl rfl ⟨rfl, rfl⟩

theorem c_Und_ptr (b : Nat) (w : World) : Calls Tryz.prog 216 #[.pointer (some ⟨b, 0, none⟩)] w (Ret fun r w' => r = .iface 54 (.pointer (some ⟨b, 0, none⟩)) ∧ w = w') := by
  refine W.enter (args := [.pointer (some ⟨b, 0, none⟩)]) Tryz.func216 rfl Tryz.ntmps216 rfl rfl ?_
  (repeat (first
      | (guard_target =~ gU _; first
          | (guard_target =~ gU []; first | refine WU.nilk ?_ )
          | refine WU.yld rfl rfl rfl (by first | (guard_target =~ gY (.move _); exact ze rfl) | (guard_target =~ gY (.assign _); exact yf rfl) | (guard_target =~ gY (.makeInterface _ _); exact zd rfl rfl) ) ?_
          )
      | (guard_target =~ gW (.seq _ _); refine W.seq ?_)
      | (guard_target =~ gW (.region _ _ false); refine W.reg ?_)
      | (guard_target =~ gW .ret; refine W.ret ?_)
      ))
  exact fin1 (.inl rfl) rfl rfl ⟨rfl, rfl⟩

theorem c_Und_slice (b : Nat) (w : World) : Calls Tryz.prog 217 #[.pointer (some ⟨b, 0, none⟩)] w (Ret fun r w' => r = .iface 56 (.pointer (some ⟨b, 0, none⟩)) ∧ w = w') := by
  refine W.enter (args := [.pointer (some ⟨b, 0, none⟩)]) Tryz.func217 rfl Tryz.ntmps217 rfl rfl ?_
  (repeat (first
      | (guard_target =~ gU _; first
          | (guard_target =~ gU []; first | refine WU.nilk ?_ )
          | refine WU.yld rfl rfl rfl (by first | (guard_target =~ gY (.move _); exact ze rfl) | (guard_target =~ gY (.assign _); exact yf rfl) | (guard_target =~ gY (.makeInterface _ _); exact zd rfl rfl) ) ?_
          )
      | (guard_target =~ gW (.seq _ _); refine W.seq ?_)
      | (guard_target =~ gW (.region _ _ false); refine W.reg ?_)
      | (guard_target =~ gW .ret; refine W.ret ?_)
      ))
  exact fin1 (.inl rfl) rfl rfl ⟨rfl, rfl⟩

theorem c_Und_array (b : Nat) (w : World) : Calls Tryz.prog 219 #[.pointer (some ⟨b, 0, none⟩)] w (Ret fun r w' => r = .iface 58 (.pointer (some ⟨b, 0, none⟩)) ∧ w = w') := by
  refine W.enter (args := [.pointer (some ⟨b, 0, none⟩)]) Tryz.func219 rfl Tryz.ntmps219 rfl rfl ?_
  (repeat (first
      | (guard_target =~ gU _; first
          | (guard_target =~ gU []; first | refine WU.nilk ?_ )
          | refine WU.yld rfl rfl rfl (by first | (guard_target =~ gY (.move _); exact ze rfl) | (guard_target =~ gY (.assign _); exact yf rfl) | (guard_target =~ gY (.makeInterface _ _); exact zd rfl rfl) ) ?_
          )
      | (guard_target =~ gW (.seq _ _); refine W.seq ?_)
      | (guard_target =~ gW (.region _ _ false); refine W.reg ?_)
      | (guard_target =~ gW .ret; refine W.ret ?_)
      ))
  exact fin1 (.inl rfl) rfl rfl ⟨rfl, rfl⟩

theorem c_Und_chan (b : Nat) (w : World) : Calls Tryz.prog 221 #[.pointer (some ⟨b, 0, none⟩)] w (Ret fun r w' => r = .iface 60 (.pointer (some ⟨b, 0, none⟩)) ∧ w = w') := by
  refine W.enter (args := [.pointer (some ⟨b, 0, none⟩)]) Tryz.func221 rfl Tryz.ntmps221 rfl rfl ?_
  (repeat (first
      | (guard_target =~ gU _; first
          | (guard_target =~ gU []; first | refine WU.nilk ?_ )
          | refine WU.yld rfl rfl rfl (by first | (guard_target =~ gY (.move _); exact ze rfl) | (guard_target =~ gY (.assign _); exact yf rfl) | (guard_target =~ gY (.makeInterface _ _); exact zd rfl rfl) ) ?_
          )
      | (guard_target =~ gW (.seq _ _); refine W.seq ?_)
      | (guard_target =~ gW (.region _ _ false); refine W.reg ?_)
      | (guard_target =~ gW .ret; refine W.ret ?_)
      ))
  exact fin1 (.inl rfl) rfl rfl ⟨rfl, rfl⟩

theorem c_Und_map (b : Nat) (w : World) : Calls Tryz.prog 223 #[.pointer (some ⟨b, 0, none⟩)] w (Ret fun r w' => r = .iface 64 (.pointer (some ⟨b, 0, none⟩)) ∧ w = w') := by
  refine W.enter (args := [.pointer (some ⟨b, 0, none⟩)]) Tryz.func223 rfl Tryz.ntmps223 rfl rfl ?_
  (repeat (first
      | (guard_target =~ gU _; first
          | (guard_target =~ gU []; first | refine WU.nilk ?_ )
          | refine WU.yld rfl rfl rfl (by first | (guard_target =~ gY (.move _); exact ze rfl) | (guard_target =~ gY (.assign _); exact yf rfl) | (guard_target =~ gY (.makeInterface _ _); exact zd rfl rfl) ) ?_
          )
      | (guard_target =~ gW (.seq _ _); refine W.seq ?_)
      | (guard_target =~ gW (.region _ _ false); refine W.reg ?_)
      | (guard_target =~ gW .ret; refine W.ret ?_)
      ))
  exact fin1 (.inl rfl) rfl rfl ⟨rfl, rfl⟩
end Go.Proofs.YtnmodbmaokilaaaGreatDoor

/- The walks and the plain laws, part 2. -/
import Derived.Test.YtelmnkfdpnkpoaaGreatDoorY1
import Derived.Test.YtelmnkfdpnkpoaaGreatDoorProg
import Derived.IntWalk
import Derived.Laws.Externs
import Derived.Lib.Bytealg
import Derived.Laws.StructEq
namespace Go.Proofs.YtelmnkfdpnkpoaaGreatDoor
open Go Go.Kd
set_option maxRecDepth 100000
instance : Mixed Tryz.prog := ⟨by kernel_rfl⟩
instance : Und Tryz.prog 2 (.int .i64) := ⟨by kernel_rfl⟩
instance : Scl Tryz.prog 2 := scl_of (by kernel_rfl)
instance : Inf Tryz.prog 2 1 := inf_of (by kernel_rfl)
instance : Zv Tryz.prog 2 (.int .i64 0) := zv_of (by kernel_rfl)
instance : Zro Tryz.prog 2 [(.int .i64 0)] := zro_of (v := (.int .i64 0)) (by kernel_rfl) rfl
instance : Und Tryz.prog 3 (.int .i64) := ⟨by kernel_rfl⟩
instance : Scl Tryz.prog 3 := scl_of (by kernel_rfl)
instance : Inf Tryz.prog 3 1 := inf_of (by kernel_rfl)
instance : Zv Tryz.prog 3 (.int .i64 0) := zv_of (by kernel_rfl)
instance : Zro Tryz.prog 3 [(.int .i64 0)] := zro_of (v := (.int .i64 0)) (by kernel_rfl) rfl
instance : Und Tryz.prog 4 .bool := ⟨by kernel_rfl⟩
instance : Scl Tryz.prog 4 := scl_of (by kernel_rfl)
instance : Inf Tryz.prog 4 1 := inf_of (by kernel_rfl)
instance : Zv Tryz.prog 4 (.bool false) := zv_of (by kernel_rfl)
instance : Zro Tryz.prog 4 [(.bool false)] := zro_of (v := (.bool false)) (by kernel_rfl) rfl
instance : Und Tryz.prog 5 (.int .u8) := ⟨by kernel_rfl⟩
instance : Scl Tryz.prog 5 := scl_of (by kernel_rfl)
instance : Inf Tryz.prog 5 1 := inf_of (by kernel_rfl)
instance : Zv Tryz.prog 5 (.int .u8 0) := zv_of (by kernel_rfl)
instance : Zro Tryz.prog 5 [(.int .u8 0)] := zro_of (v := (.int .u8 0)) (by kernel_rfl) rfl
instance : Und Tryz.prog 6 (.int .u8) := ⟨by kernel_rfl⟩
instance : Scl Tryz.prog 6 := scl_of (by kernel_rfl)
instance : Inf Tryz.prog 6 1 := inf_of (by kernel_rfl)
instance : Zv Tryz.prog 6 (.int .u8 0) := zv_of (by kernel_rfl)
instance : Zro Tryz.prog 6 [(.int .u8 0)] := zro_of (v := (.int .u8 0)) (by kernel_rfl) rfl
instance : Agt Tryz.prog 7 4 := agt_of (by kernel_rfl)
instance : Fld Tryz.prog 7 0 0 := fld_of (by kernel_rfl)
instance : Fld Tryz.prog 7 1 1 := fld_of (by kernel_rfl)
instance : Fld Tryz.prog 7 2 2 := fld_of (by kernel_rfl)
instance : Fld Tryz.prog 7 3 3 := fld_of (by kernel_rfl)
instance : Plc Tryz.prog 7 [(0, 1), (1, 1), (2, 1), (3, 1)] := plc_of (by kernel_rfl)
instance : Inf Tryz.prog 7 4 := inf_of (by kernel_rfl)
instance : Zv Tryz.prog 7 (.agg #[(.int .i64 0), (.int .i64 0), (.bool false), (.int .u8 0)]) := zv_of (by kernel_rfl)
instance : Zro Tryz.prog 7 [(.int .i64 0), (.int .i64 0), (.bool false), (.int .u8 0)] := zro_of (v := (.agg #[(.int .i64 0), (.int .i64 0), (.bool false), (.int .u8 0)])) (by kernel_rfl) rfl
instance : Agt Tryz.prog 8 4 := agt_of (by kernel_rfl)
instance : Fld Tryz.prog 8 0 0 := fld_of (by kernel_rfl)
instance : Fld Tryz.prog 8 1 1 := fld_of (by kernel_rfl)
instance : Fld Tryz.prog 8 2 2 := fld_of (by kernel_rfl)
instance : Fld Tryz.prog 8 3 3 := fld_of (by kernel_rfl)
instance : Plc Tryz.prog 8 [(0, 1), (1, 1), (2, 1), (3, 1)] := plc_of (by kernel_rfl)
instance : Inf Tryz.prog 8 4 := inf_of (by kernel_rfl)
instance : Zv Tryz.prog 8 (.agg #[(.int .i64 0), (.int .i64 0), (.bool false), (.int .u8 0)]) := zv_of (by kernel_rfl)
instance : Zro Tryz.prog 8 [(.int .i64 0), (.int .i64 0), (.bool false), (.int .u8 0)] := zro_of (v := (.agg #[(.int .i64 0), (.int .i64 0), (.bool false), (.int .u8 0)])) (by kernel_rfl) rfl
instance : Und Tryz.prog 9 .string := ⟨by kernel_rfl⟩
instance : Scl Tryz.prog 9 := scl_of (by kernel_rfl)
instance : Inf Tryz.prog 9 1 := inf_of (by kernel_rfl)
instance : Zv Tryz.prog 9 (.string ⟨#[]⟩) := zv_of (by kernel_rfl)
instance : Zro Tryz.prog 9 [(.string ⟨#[]⟩)] := zro_of (v := (.string ⟨#[]⟩)) (by kernel_rfl) rfl
instance : Und Tryz.prog 10 .string := ⟨by kernel_rfl⟩
instance : Scl Tryz.prog 10 := scl_of (by kernel_rfl)
instance : Inf Tryz.prog 10 1 := inf_of (by kernel_rfl)
instance : Zv Tryz.prog 10 (.string ⟨#[]⟩) := zv_of (by kernel_rfl)
instance : Zro Tryz.prog 10 [(.string ⟨#[]⟩)] := zro_of (v := (.string ⟨#[]⟩)) (by kernel_rfl) rfl
instance : Und Tryz.prog 11 .string := ⟨by kernel_rfl⟩
instance : Scl Tryz.prog 11 := scl_of (by kernel_rfl)
instance : Inf Tryz.prog 11 1 := inf_of (by kernel_rfl)
instance : Zv Tryz.prog 11 (.string ⟨#[]⟩) := zv_of (by kernel_rfl)
instance : Zro Tryz.prog 11 [(.string ⟨#[]⟩)] := zro_of (v := (.string ⟨#[]⟩)) (by kernel_rfl) rfl
instance : Und Tryz.prog 12 (.int .u64) := ⟨by kernel_rfl⟩
instance : Scl Tryz.prog 12 := scl_of (by kernel_rfl)
instance : Inf Tryz.prog 12 1 := inf_of (by kernel_rfl)
instance : Zv Tryz.prog 12 (.int .u64 0) := zv_of (by kernel_rfl)
instance : Zro Tryz.prog 12 [(.int .u64 0)] := zro_of (v := (.int .u64 0)) (by kernel_rfl) rfl
instance : Agt Tryz.prog 13 2 := agt_of (by kernel_rfl)
instance : Fld Tryz.prog 13 0 0 := fld_of (by kernel_rfl)
instance : Fld Tryz.prog 13 1 1 := fld_of (by kernel_rfl)
instance : Plc Tryz.prog 13 [(0, 1), (1, 1)] := plc_of (by kernel_rfl)
instance : Inf Tryz.prog 13 2 := inf_of (by kernel_rfl)
instance : Zv Tryz.prog 13 (.agg #[(.string ⟨#[]⟩), (.int .u64 0)]) := zv_of (by kernel_rfl)
instance : Zro Tryz.prog 13 [(.string ⟨#[]⟩), (.int .u64 0)] := zro_of (v := (.agg #[(.string ⟨#[]⟩), (.int .u64 0)])) (by kernel_rfl) rfl
instance : Agt Tryz.prog 14 2 := agt_of (by kernel_rfl)
instance : Fld Tryz.prog 14 0 0 := fld_of (by kernel_rfl)
instance : Fld Tryz.prog 14 1 1 := fld_of (by kernel_rfl)
instance : Plc Tryz.prog 14 [(0, 1), (1, 1)] := plc_of (by kernel_rfl)
instance : Inf Tryz.prog 14 2 := inf_of (by kernel_rfl)
instance : Zv Tryz.prog 14 (.agg #[(.string ⟨#[]⟩), (.int .u64 0)]) := zv_of (by kernel_rfl)
instance : Zro Tryz.prog 14 [(.string ⟨#[]⟩), (.int .u64 0)] := zro_of (v := (.agg #[(.string ⟨#[]⟩), (.int .u64 0)])) (by kernel_rfl) rfl
instance : Und Tryz.prog 15 (.pointer 360) := ⟨by kernel_rfl⟩
instance : Scl Tryz.prog 15 := scl_of (by kernel_rfl)
instance : Inf Tryz.prog 15 1 := inf_of (by kernel_rfl)
instance : Zv Tryz.prog 15 (.pointer none) := zv_of (by kernel_rfl)
instance : Zro Tryz.prog 15 [(.pointer none)] := zro_of (v := (.pointer none)) (by kernel_rfl) rfl
instance : PtrT Tryz.prog 15 := ptr_of (by kernel_rfl)
instance : CmpT Tryz.prog 15 := cmp_of (by kernel_rfl)
instance : Mth Tryz.prog 15 "Error" 226 := mth_of (by kernel_rfl)
instance : Mth Tryz.prog 15 "RuntimeError" 227 := mth_of (by kernel_rfl)
instance : Und Tryz.prog 16 (.pointer 363) := ⟨by kernel_rfl⟩
instance : Scl Tryz.prog 16 := scl_of (by kernel_rfl)
instance : Inf Tryz.prog 16 1 := inf_of (by kernel_rfl)
instance : Zv Tryz.prog 16 (.pointer none) := zv_of (by kernel_rfl)
instance : Zro Tryz.prog 16 [(.pointer none)] := zro_of (v := (.pointer none)) (by kernel_rfl) rfl
instance : CmpT Tryz.prog 16 := cmp_of (by kernel_rfl)
instance : Mth Tryz.prog 16 "Error" 228 := mth_of (by kernel_rfl)
instance : Mth Tryz.prog 16 "RuntimeError" 229 := mth_of (by kernel_rfl)
instance : Und Tryz.prog 17 (.pointer 371) := ⟨by kernel_rfl⟩
instance : Scl Tryz.prog 17 := scl_of (by kernel_rfl)
instance : Inf Tryz.prog 17 1 := inf_of (by kernel_rfl)
instance : Zv Tryz.prog 17 (.pointer none) := zv_of (by kernel_rfl)
instance : Zro Tryz.prog 17 [(.pointer none)] := zro_of (v := (.pointer none)) (by kernel_rfl) rfl
instance : PtrT Tryz.prog 17 := ptr_of (by kernel_rfl)
instance : CmpT Tryz.prog 17 := cmp_of (by kernel_rfl)
instance : Mth Tryz.prog 17 "Align" 230 := mth_of (by kernel_rfl)
instance : Agt Tryz.prog 18 1 := agt_of (by kernel_rfl)
instance : Fld Tryz.prog 18 0 0 := fld_of (by kernel_rfl)
instance : Plc Tryz.prog 18 [(0, 1)] := plc_of (by kernel_rfl)
instance : Inf Tryz.prog 18 1 := inf_of (by kernel_rfl)
instance : Zv Tryz.prog 18 (.agg #[(.pointer none)]) := zv_of (by kernel_rfl)
instance : Zro Tryz.prog 18 [(.pointer none)] := zro_of (v := (.agg #[(.pointer none)])) (by kernel_rfl) rfl
instance : Agt Tryz.prog 19 1 := agt_of (by kernel_rfl)
instance : Fld Tryz.prog 19 0 0 := fld_of (by kernel_rfl)
instance : Plc Tryz.prog 19 [(0, 1)] := plc_of (by kernel_rfl)
instance : Inf Tryz.prog 19 1 := inf_of (by kernel_rfl)
instance : Zv Tryz.prog 19 (.agg #[(.pointer none)]) := zv_of (by kernel_rfl)
instance : Zro Tryz.prog 19 [(.pointer none)] := zro_of (v := (.agg #[(.pointer none)])) (by kernel_rfl) rfl
instance : Und Tryz.prog 20 (.interface #[]) := ⟨by kernel_rfl⟩
instance : Scl Tryz.prog 20 := scl_of (by kernel_rfl)
instance : Inf Tryz.prog 20 1 := inf_of (by kernel_rfl)
instance : Zv Tryz.prog 20 .nilIface := zv_of (by kernel_rfl)
instance : Zro Tryz.prog 20 [.nilIface] := zro_of (v := .nilIface) (by kernel_rfl) rfl
instance : Und Tryz.prog 21 (.int .i32) := ⟨by kernel_rfl⟩
instance : Scl Tryz.prog 21 := scl_of (by kernel_rfl)
instance : Inf Tryz.prog 21 1 := inf_of (by kernel_rfl)
instance : Zv Tryz.prog 21 (.int .i32 0) := zv_of (by kernel_rfl)
instance : Zro Tryz.prog 21 [(.int .i32 0)] := zro_of (v := (.int .i32 0)) (by kernel_rfl) rfl
instance : Und Tryz.prog 22 (.slice 45) := ⟨by kernel_rfl⟩
instance : Scl Tryz.prog 22 := scl_of (by kernel_rfl)
instance : Inf Tryz.prog 22 1 := inf_of (by kernel_rfl)
instance : Zv Tryz.prog 22 (.slice none 0 0) := zv_of (by kernel_rfl)
instance : Zro Tryz.prog 22 [(.slice none 0 0)] := zro_of (v := (.slice none 0 0)) (by kernel_rfl) rfl
instance : Und Tryz.prog 23 (.int .i64) := ⟨by kernel_rfl⟩
instance : Scl Tryz.prog 23 := scl_of (by kernel_rfl)
instance : Inf Tryz.prog 23 1 := inf_of (by kernel_rfl)
instance : Zv Tryz.prog 23 (.int .i64 0) := zv_of (by kernel_rfl)
instance : Zro Tryz.prog 23 [(.int .i64 0)] := zro_of (v := (.int .i64 0)) (by kernel_rfl) rfl
instance : Und Tryz.prog 24 (.slice 26) := ⟨by kernel_rfl⟩
instance : Scl Tryz.prog 24 := scl_of (by kernel_rfl)
instance : Inf Tryz.prog 24 1 := inf_of (by kernel_rfl)
instance : Zv Tryz.prog 24 (.slice none 0 0) := zv_of (by kernel_rfl)
instance : Zro Tryz.prog 24 [(.slice none 0 0)] := zro_of (v := (.slice none 0 0)) (by kernel_rfl) rfl
instance : Agt Tryz.prog 25 8 := agt_of (by kernel_rfl)
instance : Fld Tryz.prog 25 0 0 := fld_of (by kernel_rfl)
instance : Fld Tryz.prog 25 1 1 := fld_of (by kernel_rfl)
instance : Fld Tryz.prog 25 2 2 := fld_of (by kernel_rfl)
instance : Fld Tryz.prog 25 3 3 := fld_of (by kernel_rfl)
instance : Fld Tryz.prog 25 4 4 := fld_of (by kernel_rfl)
instance : Fld Tryz.prog 25 5 5 := fld_of (by kernel_rfl)
instance : Fld Tryz.prog 25 6 6 := fld_of (by kernel_rfl)
instance : Fld Tryz.prog 25 7 7 := fld_of (by kernel_rfl)
instance : Plc Tryz.prog 25 [(0, 1), (1, 1), (2, 1), (3, 1), (4, 1), (5, 1), (6, 1), (7, 1)] := plc_of (by kernel_rfl)
instance : Inf Tryz.prog 25 8 := inf_of (by kernel_rfl)
instance : Zv Tryz.prog 25 (.agg #[(.int .i64 0), (.int .i64 0), (.int .i64 0), (.bool false), (.slice none 0 0), (.string ⟨#[]⟩), (.string ⟨#[]⟩), (.bool false)]) := zv_of (by kernel_rfl)
instance : Zro Tryz.prog 25 [(.int .i64 0), (.int .i64 0), (.int .i64 0), (.bool false), (.slice none 0 0), (.string ⟨#[]⟩), (.string ⟨#[]⟩), (.bool false)] := zro_of (v := (.agg #[(.int .i64 0), (.int .i64 0), (.int .i64 0), (.bool false), (.slice none 0 0), (.string ⟨#[]⟩), (.string ⟨#[]⟩), (.bool false)])) (by kernel_rfl) rfl
instance : Agt Tryz.prog 26 8 := agt_of (by kernel_rfl)
instance : Fld Tryz.prog 26 0 0 := fld_of (by kernel_rfl)
instance : Fld Tryz.prog 26 1 1 := fld_of (by kernel_rfl)
instance : Fld Tryz.prog 26 2 2 := fld_of (by kernel_rfl)
instance : Fld Tryz.prog 26 3 3 := fld_of (by kernel_rfl)
instance : Fld Tryz.prog 26 4 4 := fld_of (by kernel_rfl)
instance : Fld Tryz.prog 26 5 5 := fld_of (by kernel_rfl)
instance : Fld Tryz.prog 26 6 6 := fld_of (by kernel_rfl)
instance : Fld Tryz.prog 26 7 7 := fld_of (by kernel_rfl)
instance : Plc Tryz.prog 26 [(0, 1), (1, 1), (2, 1), (3, 1), (4, 1), (5, 1), (6, 1), (7, 1)] := plc_of (by kernel_rfl)
instance : Inf Tryz.prog 26 8 := inf_of (by kernel_rfl)
instance : Zv Tryz.prog 26 (.agg #[(.int .i64 0), (.int .i64 0), (.int .i64 0), (.bool false), (.slice none 0 0), (.string ⟨#[]⟩), (.string ⟨#[]⟩), (.bool false)]) := zv_of (by kernel_rfl)
instance : Zro Tryz.prog 26 [(.int .i64 0), (.int .i64 0), (.int .i64 0), (.bool false), (.slice none 0 0), (.string ⟨#[]⟩), (.string ⟨#[]⟩), (.bool false)] := zro_of (v := (.agg #[(.int .i64 0), (.int .i64 0), (.int .i64 0), (.bool false), (.slice none 0 0), (.string ⟨#[]⟩), (.string ⟨#[]⟩), (.bool false)])) (by kernel_rfl) rfl
instance : Und Tryz.prog 41 (.slice 3) := ⟨by kernel_rfl⟩
instance : Scl Tryz.prog 41 := scl_of (by kernel_rfl)
instance : Inf Tryz.prog 41 1 := inf_of (by kernel_rfl)
instance : Zv Tryz.prog 41 (.slice none 0 0) := zv_of (by kernel_rfl)
instance : Zro Tryz.prog 41 [(.slice none 0 0)] := zro_of (v := (.slice none 0 0)) (by kernel_rfl) rfl
instance : Und Tryz.prog 43 (.slice 78) := ⟨by kernel_rfl⟩
instance : Scl Tryz.prog 43 := scl_of (by kernel_rfl)
instance : Inf Tryz.prog 43 1 := inf_of (by kernel_rfl)
instance : Zv Tryz.prog 43 (.slice none 0 0) := zv_of (by kernel_rfl)
instance : Zro Tryz.prog 43 [(.slice none 0 0)] := zro_of (v := (.slice none 0 0)) (by kernel_rfl) rfl
instance : Agt Tryz.prog 44 12 := agt_of (by kernel_rfl)
instance : Fld Tryz.prog 44 0 0 := fld_of (by kernel_rfl)
instance : Fld Tryz.prog 44 1 1 := fld_of (by kernel_rfl)
instance : Fld Tryz.prog 44 2 2 := fld_of (by kernel_rfl)
instance : Fld Tryz.prog 44 3 3 := fld_of (by kernel_rfl)
instance : Fld Tryz.prog 44 4 11 := fld_of (by kernel_rfl)
instance : Plc Tryz.prog 44 [(0, 1), (1, 1), (2, 1), (3, 8), (11, 1)] := plc_of (by kernel_rfl)
instance : Inf Tryz.prog 44 12 := inf_of (by kernel_rfl)
instance : Zv Tryz.prog 44 (.agg #[(.string ⟨#[]⟩), (.int .i64 0), (.bool false), (.int .i64 0), (.int .i64 0), (.int .i64 0), (.bool false), (.slice none 0 0), (.string ⟨#[]⟩), (.string ⟨#[]⟩), (.bool false), (.slice none 0 0)]) := zv_of (by kernel_rfl)
instance : Zro Tryz.prog 44 [(.string ⟨#[]⟩), (.int .i64 0), (.bool false), (.int .i64 0), (.int .i64 0), (.int .i64 0), (.bool false), (.slice none 0 0), (.string ⟨#[]⟩), (.string ⟨#[]⟩), (.bool false), (.slice none 0 0)] := zro_of (v := (.agg #[(.string ⟨#[]⟩), (.int .i64 0), (.bool false), (.int .i64 0), (.int .i64 0), (.int .i64 0), (.bool false), (.slice none 0 0), (.string ⟨#[]⟩), (.string ⟨#[]⟩), (.bool false), (.slice none 0 0)])) (by kernel_rfl) rfl
instance : Agt Tryz.prog 45 12 := agt_of (by kernel_rfl)
instance : Fld Tryz.prog 45 0 0 := fld_of (by kernel_rfl)
instance : Fld Tryz.prog 45 1 1 := fld_of (by kernel_rfl)
instance : Fld Tryz.prog 45 2 2 := fld_of (by kernel_rfl)
instance : Fld Tryz.prog 45 3 3 := fld_of (by kernel_rfl)
instance : Fld Tryz.prog 45 4 11 := fld_of (by kernel_rfl)
instance : Plc Tryz.prog 45 [(0, 1), (1, 1), (2, 1), (3, 8), (11, 1)] := plc_of (by kernel_rfl)
instance : Inf Tryz.prog 45 12 := inf_of (by kernel_rfl)
instance : Zv Tryz.prog 45 (.agg #[(.string ⟨#[]⟩), (.int .i64 0), (.bool false), (.int .i64 0), (.int .i64 0), (.int .i64 0), (.bool false), (.slice none 0 0), (.string ⟨#[]⟩), (.string ⟨#[]⟩), (.bool false), (.slice none 0 0)]) := zv_of (by kernel_rfl)
instance : Zro Tryz.prog 45 [(.string ⟨#[]⟩), (.int .i64 0), (.bool false), (.int .i64 0), (.int .i64 0), (.int .i64 0), (.bool false), (.slice none 0 0), (.string ⟨#[]⟩), (.string ⟨#[]⟩), (.bool false), (.slice none 0 0)] := zro_of (v := (.agg #[(.string ⟨#[]⟩), (.int .i64 0), (.bool false), (.int .i64 0), (.int .i64 0), (.int .i64 0), (.bool false), (.slice none 0 0), (.string ⟨#[]⟩), (.string ⟨#[]⟩), (.bool false), (.slice none 0 0)])) (by kernel_rfl) rfl
instance : Und Tryz.prog 56 (.interface #[("Underlying", 62)]) := ⟨by kernel_rfl⟩
instance : Scl Tryz.prog 56 := scl_of (by kernel_rfl)
instance : Inf Tryz.prog 56 1 := inf_of (by kernel_rfl)
instance : Zv Tryz.prog 56 .nilIface := zv_of (by kernel_rfl)
instance : Zro Tryz.prog 56 [.nilIface] := zro_of (v := .nilIface) (by kernel_rfl) rfl
instance : Und Tryz.prog 57 (.interface #[("Underlying", 62)]) := ⟨by kernel_rfl⟩
instance : Scl Tryz.prog 57 := scl_of (by kernel_rfl)
instance : Inf Tryz.prog 57 1 := inf_of (by kernel_rfl)
instance : Zv Tryz.prog 57 .nilIface := zv_of (by kernel_rfl)
instance : Zro Tryz.prog 57 [.nilIface] := zro_of (v := .nilIface) (by kernel_rfl) rfl
instance : Und Tryz.prog 58 (.pointer 89) := ⟨by kernel_rfl⟩
instance : Scl Tryz.prog 58 := scl_of (by kernel_rfl)
instance : Inf Tryz.prog 58 1 := inf_of (by kernel_rfl)
instance : Zv Tryz.prog 58 (.pointer none) := zv_of (by kernel_rfl)
instance : Zro Tryz.prog 58 [(.pointer none)] := zro_of (v := (.pointer none)) (by kernel_rfl) rfl
instance : PtrT Tryz.prog 58 := ptr_of (by kernel_rfl)
instance : CmpT Tryz.prog 58 := cmp_of (by kernel_rfl)
instance : Mth Tryz.prog 58 "kindred/impl.basic" 92 := mth_of (by kernel_rfl)
instance : Mth Tryz.prog 58 "kindred/impl.complete" 76 := mth_of (by kernel_rfl)
instance : Mth Tryz.prog 58 "kindred/impl.name" 67 := mth_of (by kernel_rfl)
instance : Mth Tryz.prog 58 "kindred/impl.of" 44 := mth_of (by kernel_rfl)
instance : Mth Tryz.prog 58 "kindred/impl.signature" 75 := mth_of (by kernel_rfl)
instance : Mth Tryz.prog 58 "kindred/impl.typ" 69 := mth_of (by kernel_rfl)
instance : Und Tryz.prog 65 (.slice 113) := ⟨by kernel_rfl⟩
instance : Scl Tryz.prog 65 := scl_of (by kernel_rfl)
instance : Inf Tryz.prog 65 1 := inf_of (by kernel_rfl)
instance : Zv Tryz.prog 65 (.slice none 0 0) := zv_of (by kernel_rfl)
instance : Zro Tryz.prog 65 [(.slice none 0 0)] := zro_of (v := (.slice none 0 0)) (by kernel_rfl) rfl
instance : Und Tryz.prog 74 (.slice 9) := ⟨by kernel_rfl⟩
instance : Scl Tryz.prog 74 := scl_of (by kernel_rfl)
instance : Inf Tryz.prog 74 1 := inf_of (by kernel_rfl)
instance : Zv Tryz.prog 74 (.slice none 0 0) := zv_of (by kernel_rfl)
instance : Zro Tryz.prog 74 [(.slice none 0 0)] := zro_of (v := (.slice none 0 0)) (by kernel_rfl) rfl
instance : Agt Tryz.prog 77 9 := agt_of (by kernel_rfl)
instance : Fld Tryz.prog 77 0 0 := fld_of (by kernel_rfl)
instance : Fld Tryz.prog 77 1 1 := fld_of (by kernel_rfl)
instance : Plc Tryz.prog 77 [(0, 1), (1, 8)] := plc_of (by kernel_rfl)
instance : Inf Tryz.prog 77 9 := inf_of (by kernel_rfl)
instance : Zv Tryz.prog 77 (.agg #[(.bool false), (.int .i64 0), (.int .i64 0), (.int .i64 0), (.bool false), (.slice none 0 0), (.string ⟨#[]⟩), (.string ⟨#[]⟩), (.bool false)]) := zv_of (by kernel_rfl)
instance : Zro Tryz.prog 77 [(.bool false), (.int .i64 0), (.int .i64 0), (.int .i64 0), (.bool false), (.slice none 0 0), (.string ⟨#[]⟩), (.string ⟨#[]⟩), (.bool false)] := zro_of (v := (.agg #[(.bool false), (.int .i64 0), (.int .i64 0), (.int .i64 0), (.bool false), (.slice none 0 0), (.string ⟨#[]⟩), (.string ⟨#[]⟩), (.bool false)])) (by kernel_rfl) rfl
instance : Agt Tryz.prog 78 9 := agt_of (by kernel_rfl)
instance : Fld Tryz.prog 78 0 0 := fld_of (by kernel_rfl)
instance : Fld Tryz.prog 78 1 1 := fld_of (by kernel_rfl)
instance : Plc Tryz.prog 78 [(0, 1), (1, 8)] := plc_of (by kernel_rfl)
instance : Inf Tryz.prog 78 9 := inf_of (by kernel_rfl)
instance : Zv Tryz.prog 78 (.agg #[(.bool false), (.int .i64 0), (.int .i64 0), (.int .i64 0), (.bool false), (.slice none 0 0), (.string ⟨#[]⟩), (.string ⟨#[]⟩), (.bool false)]) := zv_of (by kernel_rfl)
instance : Zro Tryz.prog 78 [(.bool false), (.int .i64 0), (.int .i64 0), (.int .i64 0), (.bool false), (.slice none 0 0), (.string ⟨#[]⟩), (.string ⟨#[]⟩), (.bool false)] := zro_of (v := (.agg #[(.bool false), (.int .i64 0), (.int .i64 0), (.int .i64 0), (.bool false), (.slice none 0 0), (.string ⟨#[]⟩), (.string ⟨#[]⟩), (.bool false)])) (by kernel_rfl) rfl
instance : Und Tryz.prog 79 (.pointer 134) := ⟨by kernel_rfl⟩
instance : Scl Tryz.prog 79 := scl_of (by kernel_rfl)
instance : Inf Tryz.prog 79 1 := inf_of (by kernel_rfl)
instance : Zv Tryz.prog 79 (.pointer none) := zv_of (by kernel_rfl)
instance : Zro Tryz.prog 79 [(.pointer none)] := zro_of (v := (.pointer none)) (by kernel_rfl) rfl
instance : PtrT Tryz.prog 79 := ptr_of (by kernel_rfl)
instance : CmpT Tryz.prog 79 := cmp_of (by kernel_rfl)
instance : Mth Tryz.prog 79 "Complete" 110 := mth_of (by kernel_rfl)
instance : Mth Tryz.prog 79 "MarkImplicit" 233 := mth_of (by kernel_rfl)
instance : Mth Tryz.prog 79 "Underlying" 234 := mth_of (by kernel_rfl)
instance : Mth Tryz.prog 79 "kindred/pub/gotypes.typeSet" 113 := mth_of (by kernel_rfl)
instance : Und Tryz.prog 81 (.pointer 118) := ⟨by kernel_rfl⟩
instance : Scl Tryz.prog 81 := scl_of (by kernel_rfl)
instance : Inf Tryz.prog 81 1 := inf_of (by kernel_rfl)
instance : Zv Tryz.prog 81 (.pointer none) := zv_of (by kernel_rfl)
instance : Zro Tryz.prog 81 [(.pointer none)] := zro_of (v := (.pointer none)) (by kernel_rfl) rfl
instance : PtrT Tryz.prog 81 := ptr_of (by kernel_rfl)
instance : CmpT Tryz.prog 81 := cmp_of (by kernel_rfl)
instance : Mth Tryz.prog 81 "Name" 235 := mth_of (by kernel_rfl)
instance : Und Tryz.prog 83 (.array 2 81) := ⟨by kernel_rfl⟩
instance : Agt Tryz.prog 83 2 := agt_of (by kernel_rfl)
instance : Inf Tryz.prog 83 2 := inf_of (by kernel_rfl)
instance : Zv Tryz.prog 83 (.agg #[(.pointer none), (.pointer none)]) := zv_of (by kernel_rfl)
instance : Zro Tryz.prog 83 [(.pointer none), (.pointer none)] := zro_of (v := (.agg #[(.pointer none), (.pointer none)])) (by kernel_rfl) rfl
instance : Und Tryz.prog 84 (.slice 57) := ⟨by kernel_rfl⟩
instance : Scl Tryz.prog 84 := scl_of (by kernel_rfl)
instance : Inf Tryz.prog 84 1 := inf_of (by kernel_rfl)
instance : Zv Tryz.prog 84 (.slice none 0 0) := zv_of (by kernel_rfl)
instance : Zro Tryz.prog 84 [(.slice none 0 0)] := zro_of (v := (.slice none 0 0)) (by kernel_rfl) rfl
instance : Und Tryz.prog 85 (.pointer 145) := ⟨by kernel_rfl⟩
instance : Scl Tryz.prog 85 := scl_of (by kernel_rfl)
instance : Inf Tryz.prog 85 1 := inf_of (by kernel_rfl)
instance : Zv Tryz.prog 85 (.pointer none) := zv_of (by kernel_rfl)
instance : Zro Tryz.prog 85 [(.pointer none)] := zro_of (v := (.pointer none)) (by kernel_rfl) rfl
instance : PtrT Tryz.prog 85 := ptr_of (by kernel_rfl)
instance : CmpT Tryz.prog 85 := cmp_of (by kernel_rfl)
instance : Mth Tryz.prog 85 "AddMethod" 73 := mth_of (by kernel_rfl)
instance : Mth Tryz.prog 85 "SetUnderlying" 70 := mth_of (by kernel_rfl)
instance : Mth Tryz.prog 85 "Underlying" 236 := mth_of (by kernel_rfl)
instance : Mth Tryz.prog 85 "kindred/pub/gotypes.methodIndex" 107 := mth_of (by kernel_rfl)
instance : Mth Tryz.prog 85 "kindred/pub/gotypes.resolveUnderlying" 237 := mth_of (by kernel_rfl)
instance : Mth Tryz.prog 85 "kindred/pub/gotypes.rhs" 238 := mth_of (by kernel_rfl)
instance : Mth Tryz.prog 85 "kindred/pub/gotypes.setState" 103 := mth_of (by kernel_rfl)
instance : Mth Tryz.prog 85 "kindred/pub/gotypes.stateHas" 141 := mth_of (by kernel_rfl)
instance : Mth Tryz.prog 85 "kindred/pub/gotypes.unpack" 106 := mth_of (by kernel_rfl)
instance : Und Tryz.prog 87 (.slice 79) := ⟨by kernel_rfl⟩
instance : Scl Tryz.prog 87 := scl_of (by kernel_rfl)
instance : Inf Tryz.prog 87 1 := inf_of (by kernel_rfl)
instance : Zv Tryz.prog 87 (.slice none 0 0) := zv_of (by kernel_rfl)
instance : Zro Tryz.prog 87 [(.slice none 0 0)] := zro_of (v := (.slice none 0 0)) (by kernel_rfl) rfl
instance : Agt Tryz.prog 88 5 := agt_of (by kernel_rfl)
instance : Fld Tryz.prog 88 0 0 := fld_of (by kernel_rfl)
instance : Fld Tryz.prog 88 1 2 := fld_of (by kernel_rfl)
instance : Fld Tryz.prog 88 2 3 := fld_of (by kernel_rfl)
instance : Fld Tryz.prog 88 3 4 := fld_of (by kernel_rfl)
instance : Plc Tryz.prog 88 [(0, 2), (2, 1), (3, 1), (4, 1)] := plc_of (by kernel_rfl)
instance : Inf Tryz.prog 88 5 := inf_of (by kernel_rfl)
instance : Zv Tryz.prog 88 (.agg #[(.pointer none), (.pointer none), (.slice none 0 0), .nilIface, (.slice none 0 0)]) := zv_of (by kernel_rfl)
instance : Zro Tryz.prog 88 [(.pointer none), (.pointer none), (.slice none 0 0), .nilIface, (.slice none 0 0)] := zro_of (v := (.agg #[(.pointer none), (.pointer none), (.slice none 0 0), .nilIface, (.slice none 0 0)])) (by kernel_rfl) rfl
instance : Agt Tryz.prog 89 5 := agt_of (by kernel_rfl)
instance : Fld Tryz.prog 89 0 0 := fld_of (by kernel_rfl)
instance : Fld Tryz.prog 89 1 2 := fld_of (by kernel_rfl)
instance : Fld Tryz.prog 89 2 3 := fld_of (by kernel_rfl)
instance : Fld Tryz.prog 89 3 4 := fld_of (by kernel_rfl)
instance : Plc Tryz.prog 89 [(0, 2), (2, 1), (3, 1), (4, 1)] := plc_of (by kernel_rfl)
instance : Inf Tryz.prog 89 5 := inf_of (by kernel_rfl)
instance : Zv Tryz.prog 89 (.agg #[(.pointer none), (.pointer none), (.slice none 0 0), .nilIface, (.slice none 0 0)]) := zv_of (by kernel_rfl)
instance : Zro Tryz.prog 89 [(.pointer none), (.pointer none), (.slice none 0 0), .nilIface, (.slice none 0 0)] := zro_of (v := (.agg #[(.pointer none), (.pointer none), (.slice none 0 0), .nilIface, (.slice none 0 0)])) (by kernel_rfl) rfl
instance : Und Tryz.prog 91 (.pointer 171) := ⟨by kernel_rfl⟩
instance : Scl Tryz.prog 91 := scl_of (by kernel_rfl)
instance : Inf Tryz.prog 91 1 := inf_of (by kernel_rfl)
instance : Zv Tryz.prog 91 (.pointer none) := zv_of (by kernel_rfl)
instance : Zro Tryz.prog 91 [(.pointer none)] := zro_of (v := (.pointer none)) (by kernel_rfl) rfl
instance : PtrT Tryz.prog 91 := ptr_of (by kernel_rfl)
instance : CmpT Tryz.prog 91 := cmp_of (by kernel_rfl)
instance : Und Tryz.prog 93 (.pointer 247) := ⟨by kernel_rfl⟩
instance : Scl Tryz.prog 93 := scl_of (by kernel_rfl)
instance : Inf Tryz.prog 93 1 := inf_of (by kernel_rfl)
instance : Zv Tryz.prog 93 (.pointer none) := zv_of (by kernel_rfl)
instance : Zro Tryz.prog 93 [(.pointer none)] := zro_of (v := (.pointer none)) (by kernel_rfl) rfl
instance : PtrT Tryz.prog 93 := ptr_of (by kernel_rfl)
instance : CmpT Tryz.prog 93 := cmp_of (by kernel_rfl)
instance : Mth Tryz.prog 93 "Underlying" 240 := mth_of (by kernel_rfl)
instance : Mth Tryz.prog 93 "kindred/pub/gotypes.cleanup" 91 := mth_of (by kernel_rfl)
instance : Und Tryz.prog 96 (.pointer 165) := ⟨by kernel_rfl⟩
instance : Scl Tryz.prog 96 := scl_of (by kernel_rfl)
instance : Inf Tryz.prog 96 1 := inf_of (by kernel_rfl)
instance : Zv Tryz.prog 96 (.pointer none) := zv_of (by kernel_rfl)
instance : Zro Tryz.prog 96 [(.pointer none)] := zro_of (v := (.pointer none)) (by kernel_rfl) rfl
instance : PtrT Tryz.prog 96 := ptr_of (by kernel_rfl)
instance : CmpT Tryz.prog 96 := cmp_of (by kernel_rfl)
instance : Mth Tryz.prog 96 "Elem" 241 := mth_of (by kernel_rfl)
instance : Mth Tryz.prog 96 "Underlying" 242 := mth_of (by kernel_rfl)
instance : Und Tryz.prog 98 (.pointer 185) := ⟨by kernel_rfl⟩
instance : Scl Tryz.prog 98 := scl_of (by kernel_rfl)
instance : Inf Tryz.prog 98 1 := inf_of (by kernel_rfl)
instance : Zv Tryz.prog 98 (.pointer none) := zv_of (by kernel_rfl)
instance : Zro Tryz.prog 98 [(.pointer none)] := zro_of (v := (.pointer none)) (by kernel_rfl) rfl
instance : PtrT Tryz.prog 98 := ptr_of (by kernel_rfl)
instance : CmpT Tryz.prog 98 := cmp_of (by kernel_rfl)
instance : Mth Tryz.prog 98 "Embedded" 243 := mth_of (by kernel_rfl)
instance : Und Tryz.prog 100 (.int .i64) := ⟨by kernel_rfl⟩
instance : Scl Tryz.prog 100 := scl_of (by kernel_rfl)
instance : Inf Tryz.prog 100 1 := inf_of (by kernel_rfl)
instance : Zv Tryz.prog 100 (.int .i64 0) := zv_of (by kernel_rfl)
instance : Zro Tryz.prog 100 [(.int .i64 0)] := zro_of (v := (.int .i64 0)) (by kernel_rfl) rfl
instance : Und Tryz.prog 102 (.pointer 173) := ⟨by kernel_rfl⟩
instance : Scl Tryz.prog 102 := scl_of (by kernel_rfl)
instance : Inf Tryz.prog 102 1 := inf_of (by kernel_rfl)
instance : Zv Tryz.prog 102 (.pointer none) := zv_of (by kernel_rfl)
instance : Zro Tryz.prog 102 [(.pointer none)] := zro_of (v := (.pointer none)) (by kernel_rfl) rfl
instance : PtrT Tryz.prog 102 := ptr_of (by kernel_rfl)
instance : CmpT Tryz.prog 102 := cmp_of (by kernel_rfl)
instance : Und Tryz.prog 104 (.pointer 129) := ⟨by kernel_rfl⟩
instance : Scl Tryz.prog 104 := scl_of (by kernel_rfl)
instance : Inf Tryz.prog 104 1 := inf_of (by kernel_rfl)
instance : Zv Tryz.prog 104 (.pointer none) := zv_of (by kernel_rfl)
instance : Zro Tryz.prog 104 [(.pointer none)] := zro_of (v := (.pointer none)) (by kernel_rfl) rfl
instance : PtrT Tryz.prog 104 := ptr_of (by kernel_rfl)
instance : CmpT Tryz.prog 104 := cmp_of (by kernel_rfl)
instance : Mth Tryz.prog 104 "Underlying" 244 := mth_of (by kernel_rfl)
instance : Mth Tryz.prog 104 "Variadic" 245 := mth_of (by kernel_rfl)
instance : Und Tryz.prog 106 (.pointer 262) := ⟨by kernel_rfl⟩
instance : Scl Tryz.prog 106 := scl_of (by kernel_rfl)
instance : Inf Tryz.prog 106 1 := inf_of (by kernel_rfl)
instance : Zv Tryz.prog 106 (.pointer none) := zv_of (by kernel_rfl)
instance : Zro Tryz.prog 106 [(.pointer none)] := zro_of (v := (.pointer none)) (by kernel_rfl) rfl
instance : PtrT Tryz.prog 106 := ptr_of (by kernel_rfl)
instance : CmpT Tryz.prog 106 := cmp_of (by kernel_rfl)
instance : Agt Tryz.prog 108 2 := agt_of (by kernel_rfl)
instance : Fld Tryz.prog 108 0 0 := fld_of (by kernel_rfl)
instance : Fld Tryz.prog 108 1 1 := fld_of (by kernel_rfl)
instance : Plc Tryz.prog 108 [(0, 1), (1, 1)] := plc_of (by kernel_rfl)
instance : Inf Tryz.prog 108 2 := inf_of (by kernel_rfl)
instance : Zv Tryz.prog 108 (.agg #[(.bool false), (.bool false)]) := zv_of (by kernel_rfl)
instance : Zro Tryz.prog 108 [(.bool false), (.bool false)] := zro_of (v := (.agg #[(.bool false), (.bool false)])) (by kernel_rfl) rfl
instance : Agt Tryz.prog 109 2 := agt_of (by kernel_rfl)
instance : Fld Tryz.prog 109 0 0 := fld_of (by kernel_rfl)
instance : Fld Tryz.prog 109 1 1 := fld_of (by kernel_rfl)
instance : Plc Tryz.prog 109 [(0, 1), (1, 1)] := plc_of (by kernel_rfl)
instance : Inf Tryz.prog 109 2 := inf_of (by kernel_rfl)
instance : Zv Tryz.prog 109 (.agg #[(.bool false), (.bool false)]) := zv_of (by kernel_rfl)
instance : Zro Tryz.prog 109 [(.bool false), (.bool false)] := zro_of (v := (.agg #[(.bool false), (.bool false)])) (by kernel_rfl) rfl
instance : Agt Tryz.prog 112 10 := agt_of (by kernel_rfl)
instance : Fld Tryz.prog 112 0 0 := fld_of (by kernel_rfl)
instance : Fld Tryz.prog 112 1 1 := fld_of (by kernel_rfl)
instance : Fld Tryz.prog 112 2 2 := fld_of (by kernel_rfl)
instance : Plc Tryz.prog 112 [(0, 1), (1, 1), (2, 8)] := plc_of (by kernel_rfl)
instance : Inf Tryz.prog 112 10 := inf_of (by kernel_rfl)
instance : Zv Tryz.prog 112 (.agg #[(.string ⟨#[]⟩), (.int .i64 0), (.int .i64 0), (.int .i64 0), (.int .i64 0), (.bool false), (.slice none 0 0), (.string ⟨#[]⟩), (.string ⟨#[]⟩), (.bool false)]) := zv_of (by kernel_rfl)
instance : Zro Tryz.prog 112 [(.string ⟨#[]⟩), (.int .i64 0), (.int .i64 0), (.int .i64 0), (.int .i64 0), (.bool false), (.slice none 0 0), (.string ⟨#[]⟩), (.string ⟨#[]⟩), (.bool false)] := zro_of (v := (.agg #[(.string ⟨#[]⟩), (.int .i64 0), (.int .i64 0), (.int .i64 0), (.int .i64 0), (.bool false), (.slice none 0 0), (.string ⟨#[]⟩), (.string ⟨#[]⟩), (.bool false)])) (by kernel_rfl) rfl
instance : Agt Tryz.prog 113 10 := agt_of (by kernel_rfl)
instance : Fld Tryz.prog 113 0 0 := fld_of (by kernel_rfl)
instance : Fld Tryz.prog 113 1 1 := fld_of (by kernel_rfl)
instance : Fld Tryz.prog 113 2 2 := fld_of (by kernel_rfl)
instance : Plc Tryz.prog 113 [(0, 1), (1, 1), (2, 8)] := plc_of (by kernel_rfl)
instance : Inf Tryz.prog 113 10 := inf_of (by kernel_rfl)
instance : Zv Tryz.prog 113 (.agg #[(.string ⟨#[]⟩), (.int .i64 0), (.int .i64 0), (.int .i64 0), (.int .i64 0), (.bool false), (.slice none 0 0), (.string ⟨#[]⟩), (.string ⟨#[]⟩), (.bool false)]) := zv_of (by kernel_rfl)
instance : Zro Tryz.prog 113 [(.string ⟨#[]⟩), (.int .i64 0), (.int .i64 0), (.int .i64 0), (.int .i64 0), (.bool false), (.slice none 0 0), (.string ⟨#[]⟩), (.string ⟨#[]⟩), (.bool false)] := zro_of (v := (.agg #[(.string ⟨#[]⟩), (.int .i64 0), (.int .i64 0), (.int .i64 0), (.int .i64 0), (.bool false), (.slice none 0 0), (.string ⟨#[]⟩), (.string ⟨#[]⟩), (.bool false)])) (by kernel_rfl) rfl
instance : Agt Tryz.prog 117 2 := agt_of (by kernel_rfl)
instance : Fld Tryz.prog 117 0 0 := fld_of (by kernel_rfl)
instance : Fld Tryz.prog 117 1 1 := fld_of (by kernel_rfl)
instance : Plc Tryz.prog 117 [(0, 1), (1, 1)] := plc_of (by kernel_rfl)
instance : Inf Tryz.prog 117 2 := inf_of (by kernel_rfl)
instance : Zv Tryz.prog 117 (.agg #[(.string ⟨#[]⟩), (.string ⟨#[]⟩)]) := zv_of (by kernel_rfl)
instance : Zro Tryz.prog 117 [(.string ⟨#[]⟩), (.string ⟨#[]⟩)] := zro_of (v := (.agg #[(.string ⟨#[]⟩), (.string ⟨#[]⟩)])) (by kernel_rfl) rfl
instance : Agt Tryz.prog 118 2 := agt_of (by kernel_rfl)
instance : Fld Tryz.prog 118 0 0 := fld_of (by kernel_rfl)
instance : Fld Tryz.prog 118 1 1 := fld_of (by kernel_rfl)
instance : Plc Tryz.prog 118 [(0, 1), (1, 1)] := plc_of (by kernel_rfl)
instance : Inf Tryz.prog 118 2 := inf_of (by kernel_rfl)
instance : Zv Tryz.prog 118 (.agg #[(.string ⟨#[]⟩), (.string ⟨#[]⟩)]) := zv_of (by kernel_rfl)
instance : Zro Tryz.prog 118 [(.string ⟨#[]⟩), (.string ⟨#[]⟩)] := zro_of (v := (.agg #[(.string ⟨#[]⟩), (.string ⟨#[]⟩)])) (by kernel_rfl) rfl
instance : Und Tryz.prog 120 (.pointer 373) := ⟨by kernel_rfl⟩
instance : Scl Tryz.prog 120 := scl_of (by kernel_rfl)
instance : Inf Tryz.prog 120 1 := inf_of (by kernel_rfl)
instance : Zv Tryz.prog 120 (.pointer none) := zv_of (by kernel_rfl)
instance : Zro Tryz.prog 120 [(.pointer none)] := zro_of (v := (.pointer none)) (by kernel_rfl) rfl
instance : CmpT Tryz.prog 120 := cmp_of (by kernel_rfl)
instance : Mth Tryz.prog 120 "kindred/pub/gotypes.newAlias" 90 := mth_of (by kernel_rfl)
instance : Mth Tryz.prog 120 "kindred/pub/gotypes.newInterface" 137 := mth_of (by kernel_rfl)
instance : Mth Tryz.prog 120 "kindred/pub/gotypes.newNamed" 84 := mth_of (by kernel_rfl)
instance : Und Tryz.prog 122 (.int .u8) := ⟨by kernel_rfl⟩
instance : Scl Tryz.prog 122 := scl_of (by kernel_rfl)
instance : Inf Tryz.prog 122 1 := inf_of (by kernel_rfl)
instance : Zv Tryz.prog 122 (.int .u8 0) := zv_of (by kernel_rfl)
instance : Zro Tryz.prog 122 [(.int .u8 0)] := zro_of (v := (.int .u8 0)) (by kernel_rfl) rfl
instance : Und Tryz.prog 123 (.pointer 180) := ⟨by kernel_rfl⟩
instance : Scl Tryz.prog 123 := scl_of (by kernel_rfl)
instance : Inf Tryz.prog 123 1 := inf_of (by kernel_rfl)
instance : Zv Tryz.prog 123 (.pointer none) := zv_of (by kernel_rfl)
instance : Zro Tryz.prog 123 [(.pointer none)] := zro_of (v := (.pointer none)) (by kernel_rfl) rfl
instance : PtrT Tryz.prog 123 := ptr_of (by kernel_rfl)
instance : CmpT Tryz.prog 123 := cmp_of (by kernel_rfl)
instance : Mth Tryz.prog 123 "Name" 246 := mth_of (by kernel_rfl)
instance : Mth Tryz.prog 123 "Underlying" 247 := mth_of (by kernel_rfl)
instance : Und Tryz.prog 125 (.int .i64) := ⟨by kernel_rfl⟩
instance : Scl Tryz.prog 125 := scl_of (by kernel_rfl)
instance : Inf Tryz.prog 125 1 := inf_of (by kernel_rfl)
instance : Zv Tryz.prog 125 (.int .i64 0) := zv_of (by kernel_rfl)
instance : Zro Tryz.prog 125 [(.int .i64 0)] := zro_of (v := (.int .i64 0)) (by kernel_rfl) rfl
instance : Und Tryz.prog 126 (.pointer 206) := ⟨by kernel_rfl⟩
instance : Scl Tryz.prog 126 := scl_of (by kernel_rfl)
instance : Inf Tryz.prog 126 1 := inf_of (by kernel_rfl)
instance : Zv Tryz.prog 126 (.pointer none) := zv_of (by kernel_rfl)
instance : Zro Tryz.prog 126 [(.pointer none)] := zro_of (v := (.pointer none)) (by kernel_rfl) rfl
instance : PtrT Tryz.prog 126 := ptr_of (by kernel_rfl)
instance : CmpT Tryz.prog 126 := cmp_of (by kernel_rfl)
instance : Mth Tryz.prog 126 "At" 143 := mth_of (by kernel_rfl)
instance : Mth Tryz.prog 126 "Len" 121 := mth_of (by kernel_rfl)
instance : Mth Tryz.prog 126 "Underlying" 248 := mth_of (by kernel_rfl)
instance : Agt Tryz.prog 128 5 := agt_of (by kernel_rfl)
instance : Fld Tryz.prog 128 0 0 := fld_of (by kernel_rfl)
instance : Fld Tryz.prog 128 1 1 := fld_of (by kernel_rfl)
instance : Fld Tryz.prog 128 2 2 := fld_of (by kernel_rfl)
instance : Fld Tryz.prog 128 3 3 := fld_of (by kernel_rfl)
instance : Fld Tryz.prog 128 4 4 := fld_of (by kernel_rfl)
instance : Plc Tryz.prog 128 [(0, 1), (1, 1), (2, 1), (3, 1), (4, 1)] := plc_of (by kernel_rfl)
instance : Inf Tryz.prog 128 5 := inf_of (by kernel_rfl)
instance : Zv Tryz.prog 128 (.agg #[(.pointer none), (.pointer none), (.pointer none), (.pointer none), (.bool false)]) := zv_of (by kernel_rfl)
instance : Zro Tryz.prog 128 [(.pointer none), (.pointer none), (.pointer none), (.pointer none), (.bool false)] := zro_of (v := (.agg #[(.pointer none), (.pointer none), (.pointer none), (.pointer none), (.bool false)])) (by kernel_rfl) rfl
instance : Agt Tryz.prog 129 5 := agt_of (by kernel_rfl)
instance : Fld Tryz.prog 129 0 0 := fld_of (by kernel_rfl)
instance : Fld Tryz.prog 129 1 1 := fld_of (by kernel_rfl)
instance : Fld Tryz.prog 129 2 2 := fld_of (by kernel_rfl)
instance : Fld Tryz.prog 129 3 3 := fld_of (by kernel_rfl)
instance : Fld Tryz.prog 129 4 4 := fld_of (by kernel_rfl)
instance : Plc Tryz.prog 129 [(0, 1), (1, 1), (2, 1), (3, 1), (4, 1)] := plc_of (by kernel_rfl)
instance : Inf Tryz.prog 129 5 := inf_of (by kernel_rfl)
instance : Zv Tryz.prog 129 (.agg #[(.pointer none), (.pointer none), (.pointer none), (.pointer none), (.bool false)]) := zv_of (by kernel_rfl)
instance : Zro Tryz.prog 129 [(.pointer none), (.pointer none), (.pointer none), (.pointer none), (.bool false)] := zro_of (v := (.agg #[(.pointer none), (.pointer none), (.pointer none), (.pointer none), (.bool false)])) (by kernel_rfl) rfl
instance : Und Tryz.prog 130 (.slice 102) := ⟨by kernel_rfl⟩
instance : Scl Tryz.prog 130 := scl_of (by kernel_rfl)
instance : Inf Tryz.prog 130 1 := inf_of (by kernel_rfl)
instance : Zv Tryz.prog 130 (.slice none 0 0) := zv_of (by kernel_rfl)
instance : Zro Tryz.prog 130 [(.slice none 0 0)] := zro_of (v := (.slice none 0 0)) (by kernel_rfl) rfl
instance : Und Tryz.prog 131 (.pointer 238) := ⟨by kernel_rfl⟩
instance : Scl Tryz.prog 131 := scl_of (by kernel_rfl)
instance : Inf Tryz.prog 131 1 := inf_of (by kernel_rfl)
instance : Zv Tryz.prog 131 (.pointer none) := zv_of (by kernel_rfl)
instance : Zro Tryz.prog 131 [(.pointer none)] := zro_of (v := (.pointer none)) (by kernel_rfl) rfl
instance : PtrT Tryz.prog 131 := ptr_of (by kernel_rfl)
instance : CmpT Tryz.prog 131 := cmp_of (by kernel_rfl)
instance : Und Tryz.prog 132 (.pointer 215) := ⟨by kernel_rfl⟩
instance : Scl Tryz.prog 132 := scl_of (by kernel_rfl)
instance : Inf Tryz.prog 132 1 := inf_of (by kernel_rfl)
instance : Zv Tryz.prog 132 (.pointer none) := zv_of (by kernel_rfl)
instance : Zro Tryz.prog 132 [(.pointer none)] := zro_of (v := (.pointer none)) (by kernel_rfl) rfl
instance : PtrT Tryz.prog 132 := ptr_of (by kernel_rfl)
instance : CmpT Tryz.prog 132 := cmp_of (by kernel_rfl)
instance : Mth Tryz.prog 132 "IsAll" 249 := mth_of (by kernel_rfl)
instance : Mth Tryz.prog 132 "IsComparable" 114 := mth_of (by kernel_rfl)
instance : Mth Tryz.prog 132 "IsEmpty" 115 := mth_of (by kernel_rfl)
instance : Mth Tryz.prog 132 "kindred/pub/gotypes.hasTerms" 173 := mth_of (by kernel_rfl)
instance : Mth Tryz.prog 132 "kindred/pub/gotypes.is" 148 := mth_of (by kernel_rfl)
instance : Agt Tryz.prog 133 7 := agt_of (by kernel_rfl)
instance : Fld Tryz.prog 133 0 0 := fld_of (by kernel_rfl)
instance : Fld Tryz.prog 133 1 1 := fld_of (by kernel_rfl)
instance : Fld Tryz.prog 133 2 2 := fld_of (by kernel_rfl)
instance : Fld Tryz.prog 133 3 3 := fld_of (by kernel_rfl)
instance : Fld Tryz.prog 133 4 4 := fld_of (by kernel_rfl)
instance : Fld Tryz.prog 133 5 5 := fld_of (by kernel_rfl)
instance : Fld Tryz.prog 133 6 6 := fld_of (by kernel_rfl)
instance : Plc Tryz.prog 133 [(0, 1), (1, 1), (2, 1), (3, 1), (4, 1), (5, 1), (6, 1)] := plc_of (by kernel_rfl)
instance : Inf Tryz.prog 133 7 := inf_of (by kernel_rfl)
instance : Zv Tryz.prog 133 (.agg #[(.pointer none), (.slice none 0 0), (.slice none 0 0), (.pointer none), (.bool false), (.bool false), (.pointer none)]) := zv_of (by kernel_rfl)
instance : Zro Tryz.prog 133 [(.pointer none), (.slice none 0 0), (.slice none 0 0), (.pointer none), (.bool false), (.bool false), (.pointer none)] := zro_of (v := (.agg #[(.pointer none), (.slice none 0 0), (.slice none 0 0), (.pointer none), (.bool false), (.bool false), (.pointer none)])) (by kernel_rfl) rfl
instance : Agt Tryz.prog 134 7 := agt_of (by kernel_rfl)
instance : Fld Tryz.prog 134 0 0 := fld_of (by kernel_rfl)
instance : Fld Tryz.prog 134 1 1 := fld_of (by kernel_rfl)
instance : Fld Tryz.prog 134 2 2 := fld_of (by kernel_rfl)
instance : Fld Tryz.prog 134 3 3 := fld_of (by kernel_rfl)
instance : Fld Tryz.prog 134 4 4 := fld_of (by kernel_rfl)
instance : Fld Tryz.prog 134 5 5 := fld_of (by kernel_rfl)
instance : Fld Tryz.prog 134 6 6 := fld_of (by kernel_rfl)
instance : Plc Tryz.prog 134 [(0, 1), (1, 1), (2, 1), (3, 1), (4, 1), (5, 1), (6, 1)] := plc_of (by kernel_rfl)
instance : Inf Tryz.prog 134 7 := inf_of (by kernel_rfl)
instance : Zv Tryz.prog 134 (.agg #[(.pointer none), (.slice none 0 0), (.slice none 0 0), (.pointer none), (.bool false), (.bool false), (.pointer none)]) := zv_of (by kernel_rfl)
instance : Zro Tryz.prog 134 [(.pointer none), (.slice none 0 0), (.slice none 0 0), (.pointer none), (.bool false), (.bool false), (.pointer none)] := zro_of (v := (.agg #[(.pointer none), (.slice none 0 0), (.slice none 0 0), (.pointer none), (.bool false), (.bool false), (.pointer none)])) (by kernel_rfl) rfl
instance : Agt Tryz.prog 137 0 := agt_of (by kernel_rfl)
instance : Plc Tryz.prog 137 [] := plc_of (by kernel_rfl)
instance : Inf Tryz.prog 137 0 := inf_of (by kernel_rfl)
instance : Zv Tryz.prog 137 (.agg #[]) := zv_of (by kernel_rfl)
instance : Zro Tryz.prog 137 [] := zro_of (v := (.agg #[])) (by kernel_rfl) rfl
instance : Agt Tryz.prog 138 0 := agt_of (by kernel_rfl)
instance : Plc Tryz.prog 138 [] := plc_of (by kernel_rfl)
instance : Inf Tryz.prog 138 0 := inf_of (by kernel_rfl)
instance : Zv Tryz.prog 138 (.agg #[]) := zv_of (by kernel_rfl)
instance : Zro Tryz.prog 138 [] := zro_of (v := (.agg #[])) (by kernel_rfl) rfl
instance : Und Tryz.prog 139 (.int .u32) := ⟨by kernel_rfl⟩
instance : Scl Tryz.prog 139 := scl_of (by kernel_rfl)
instance : Inf Tryz.prog 139 1 := inf_of (by kernel_rfl)
instance : Zv Tryz.prog 139 (.int .u32 0) := zv_of (by kernel_rfl)
instance : Zro Tryz.prog 139 [(.int .u32 0)] := zro_of (v := (.int .u32 0)) (by kernel_rfl) rfl
instance : Agt Tryz.prog 140 2 := agt_of (by kernel_rfl)
instance : Fld Tryz.prog 140 0 0 := fld_of (by kernel_rfl)
instance : Fld Tryz.prog 140 1 1 := fld_of (by kernel_rfl)
instance : Plc Tryz.prog 140 [(0, 1), (1, 1)] := plc_of (by kernel_rfl)
instance : Inf Tryz.prog 140 2 := inf_of (by kernel_rfl)
instance : Zv Tryz.prog 140 (.agg #[(.int .i32 0), (.int .u32 0)]) := zv_of (by kernel_rfl)
instance : Zro Tryz.prog 140 [(.int .i32 0), (.int .u32 0)] := zro_of (v := (.agg #[(.int .i32 0), (.int .u32 0)])) (by kernel_rfl) rfl
instance : Agt Tryz.prog 141 2 := agt_of (by kernel_rfl)
instance : Fld Tryz.prog 141 0 0 := fld_of (by kernel_rfl)
instance : Fld Tryz.prog 141 1 1 := fld_of (by kernel_rfl)
instance : Plc Tryz.prog 141 [(0, 1), (1, 1)] := plc_of (by kernel_rfl)
instance : Inf Tryz.prog 141 2 := inf_of (by kernel_rfl)
instance : Zv Tryz.prog 141 (.agg #[(.int .i32 0), (.int .u32 0)]) := zv_of (by kernel_rfl)
instance : Zro Tryz.prog 141 [(.int .i32 0), (.int .u32 0)] := zro_of (v := (.agg #[(.int .i32 0), (.int .u32 0)])) (by kernel_rfl) rfl
instance : Agt Tryz.prog 142 2 := agt_of (by kernel_rfl)
instance : Fld Tryz.prog 142 1 0 := fld_of (by kernel_rfl)
instance : Plc Tryz.prog 142 [(0, 0), (0, 2)] := plc_of (by kernel_rfl)
instance : Inf Tryz.prog 142 2 := inf_of (by kernel_rfl)
instance : Zv Tryz.prog 142 (.agg #[(.int .i32 0), (.int .u32 0)]) := zv_of (by kernel_rfl)
instance : Zro Tryz.prog 142 [(.int .i32 0), (.int .u32 0)] := zro_of (v := (.agg #[(.int .i32 0), (.int .u32 0)])) (by kernel_rfl) rfl
instance : Agt Tryz.prog 143 2 := agt_of (by kernel_rfl)
instance : Fld Tryz.prog 143 1 0 := fld_of (by kernel_rfl)
instance : Plc Tryz.prog 143 [(0, 0), (0, 2)] := plc_of (by kernel_rfl)
instance : Inf Tryz.prog 143 2 := inf_of (by kernel_rfl)
instance : Zv Tryz.prog 143 (.agg #[(.int .i32 0), (.int .u32 0)]) := zv_of (by kernel_rfl)
instance : Zro Tryz.prog 143 [(.int .i32 0), (.int .u32 0)] := zro_of (v := (.agg #[(.int .i32 0), (.int .u32 0)])) (by kernel_rfl) rfl
instance : Agt Tryz.prog 144 10 := agt_of (by kernel_rfl)
instance : Fld Tryz.prog 144 0 0 := fld_of (by kernel_rfl)
instance : Fld Tryz.prog 144 1 1 := fld_of (by kernel_rfl)
instance : Fld Tryz.prog 144 2 2 := fld_of (by kernel_rfl)
instance : Fld Tryz.prog 144 3 3 := fld_of (by kernel_rfl)
instance : Fld Tryz.prog 144 4 5 := fld_of (by kernel_rfl)
instance : Fld Tryz.prog 144 5 6 := fld_of (by kernel_rfl)
instance : Fld Tryz.prog 144 6 7 := fld_of (by kernel_rfl)
instance : Fld Tryz.prog 144 7 8 := fld_of (by kernel_rfl)
instance : Fld Tryz.prog 144 8 9 := fld_of (by kernel_rfl)
instance : Plc Tryz.prog 144 [(0, 1), (1, 1), (2, 1), (3, 2), (5, 1), (6, 1), (7, 1), (8, 1), (9, 1)] := plc_of (by kernel_rfl)
instance : Inf Tryz.prog 144 10 := inf_of (by kernel_rfl)
instance : Zv Tryz.prog 144 (.agg #[(.pointer none), (.pointer none), (.bool false), (.int .i32 0), (.int .u32 0), (.int .u32 0), .nilIface, .nilIface, (.bool false), (.slice none 0 0)]) := zv_of (by kernel_rfl)
instance : Zro Tryz.prog 144 [(.pointer none), (.pointer none), (.bool false), (.int .i32 0), (.int .u32 0), (.int .u32 0), .nilIface, .nilIface, (.bool false), (.slice none 0 0)] := zro_of (v := (.agg #[(.pointer none), (.pointer none), (.bool false), (.int .i32 0), (.int .u32 0), (.int .u32 0), .nilIface, .nilIface, (.bool false), (.slice none 0 0)])) (by kernel_rfl) rfl
instance : Agt Tryz.prog 145 10 := agt_of (by kernel_rfl)
instance : Fld Tryz.prog 145 0 0 := fld_of (by kernel_rfl)
instance : Fld Tryz.prog 145 1 1 := fld_of (by kernel_rfl)
instance : Fld Tryz.prog 145 2 2 := fld_of (by kernel_rfl)
instance : Fld Tryz.prog 145 3 3 := fld_of (by kernel_rfl)
instance : Fld Tryz.prog 145 4 5 := fld_of (by kernel_rfl)
instance : Fld Tryz.prog 145 5 6 := fld_of (by kernel_rfl)
instance : Fld Tryz.prog 145 6 7 := fld_of (by kernel_rfl)
instance : Fld Tryz.prog 145 7 8 := fld_of (by kernel_rfl)
instance : Fld Tryz.prog 145 8 9 := fld_of (by kernel_rfl)
instance : Plc Tryz.prog 145 [(0, 1), (1, 1), (2, 1), (3, 2), (5, 1), (6, 1), (7, 1), (8, 1), (9, 1)] := plc_of (by kernel_rfl)
instance : Inf Tryz.prog 145 10 := inf_of (by kernel_rfl)
instance : Zv Tryz.prog 145 (.agg #[(.pointer none), (.pointer none), (.bool false), (.int .i32 0), (.int .u32 0), (.int .u32 0), .nilIface, .nilIface, (.bool false), (.slice none 0 0)]) := zv_of (by kernel_rfl)
instance : Zro Tryz.prog 145 [(.pointer none), (.pointer none), (.bool false), (.int .i32 0), (.int .u32 0), (.int .u32 0), .nilIface, .nilIface, (.bool false), (.slice none 0 0)] := zro_of (v := (.agg #[(.pointer none), (.pointer none), (.bool false), (.int .i32 0), (.int .u32 0), (.int .u32 0), .nilIface, .nilIface, (.bool false), (.slice none 0 0)])) (by kernel_rfl) rfl
instance : Und Tryz.prog 147 (.pointer 198) := ⟨by kernel_rfl⟩
instance : Scl Tryz.prog 147 := scl_of (by kernel_rfl)
instance : Inf Tryz.prog 147 1 := inf_of (by kernel_rfl)
instance : Zv Tryz.prog 147 (.pointer none) := zv_of (by kernel_rfl)
instance : Zro Tryz.prog 147 [(.pointer none)] := zro_of (v := (.pointer none)) (by kernel_rfl) rfl
instance : PtrT Tryz.prog 147 := ptr_of (by kernel_rfl)
instance : CmpT Tryz.prog 147 := cmp_of (by kernel_rfl)
instance : Mth Tryz.prog 147 "Elem" 250 := mth_of (by kernel_rfl)
instance : Mth Tryz.prog 147 "Underlying" 251 := mth_of (by kernel_rfl)
instance : Und Tryz.prog 149 (.pointer 187) := ⟨by kernel_rfl⟩
instance : Scl Tryz.prog 149 := scl_of (by kernel_rfl)
instance : Inf Tryz.prog 149 1 := inf_of (by kernel_rfl)
instance : Zv Tryz.prog 149 (.pointer none) := zv_of (by kernel_rfl)
instance : Zro Tryz.prog 149 [(.pointer none)] := zro_of (v := (.pointer none)) (by kernel_rfl) rfl
instance : PtrT Tryz.prog 149 := ptr_of (by kernel_rfl)
instance : CmpT Tryz.prog 149 := cmp_of (by kernel_rfl)
instance : Mth Tryz.prog 149 "Len" 252 := mth_of (by kernel_rfl)
instance : Mth Tryz.prog 149 "Underlying" 253 := mth_of (by kernel_rfl)
instance : Und Tryz.prog 151 (.pointer 223) := ⟨by kernel_rfl⟩
instance : Scl Tryz.prog 151 := scl_of (by kernel_rfl)
instance : Inf Tryz.prog 151 1 := inf_of (by kernel_rfl)
instance : Zv Tryz.prog 151 (.pointer none) := zv_of (by kernel_rfl)
instance : Zro Tryz.prog 151 [(.pointer none)] := zro_of (v := (.pointer none)) (by kernel_rfl) rfl
instance : PtrT Tryz.prog 151 := ptr_of (by kernel_rfl)
instance : CmpT Tryz.prog 151 := cmp_of (by kernel_rfl)
instance : Mth Tryz.prog 151 "Elem" 254 := mth_of (by kernel_rfl)
instance : Mth Tryz.prog 151 "Underlying" 255 := mth_of (by kernel_rfl)
instance : Und Tryz.prog 153 (.pointer 226) := ⟨by kernel_rfl⟩
instance : Scl Tryz.prog 153 := scl_of (by kernel_rfl)
instance : Inf Tryz.prog 153 1 := inf_of (by kernel_rfl)
instance : Zv Tryz.prog 153 (.pointer none) := zv_of (by kernel_rfl)
instance : Zro Tryz.prog 153 [(.pointer none)] := zro_of (v := (.pointer none)) (by kernel_rfl) rfl
instance : PtrT Tryz.prog 153 := ptr_of (by kernel_rfl)
instance : CmpT Tryz.prog 153 := cmp_of (by kernel_rfl)
instance : Mth Tryz.prog 153 "Dir" 256 := mth_of (by kernel_rfl)
instance : Mth Tryz.prog 153 "Underlying" 257 := mth_of (by kernel_rfl)
instance : Und Tryz.prog 155 (.int .i64) := ⟨by kernel_rfl⟩
instance : Scl Tryz.prog 155 := scl_of (by kernel_rfl)
instance : Inf Tryz.prog 155 1 := inf_of (by kernel_rfl)
instance : Zv Tryz.prog 155 (.int .i64 0) := zv_of (by kernel_rfl)
instance : Zro Tryz.prog 155 [(.int .i64 0)] := zro_of (v := (.int .i64 0)) (by kernel_rfl) rfl
instance : Und Tryz.prog 157 (.slice 98) := ⟨by kernel_rfl⟩
instance : Scl Tryz.prog 157 := scl_of (by kernel_rfl)
instance : Inf Tryz.prog 157 1 := inf_of (by kernel_rfl)
instance : Zv Tryz.prog 157 (.slice none 0 0) := zv_of (by kernel_rfl)
instance : Zro Tryz.prog 157 [(.slice none 0 0)] := zro_of (v := (.slice none 0 0)) (by kernel_rfl) rfl
instance : Und Tryz.prog 159 (.pointer 183) := ⟨by kernel_rfl⟩
instance : Scl Tryz.prog 159 := scl_of (by kernel_rfl)
instance : Inf Tryz.prog 159 1 := inf_of (by kernel_rfl)
instance : Zv Tryz.prog 159 (.pointer none) := zv_of (by kernel_rfl)
instance : Zro Tryz.prog 159 [(.pointer none)] := zro_of (v := (.pointer none)) (by kernel_rfl) rfl
instance : PtrT Tryz.prog 159 := ptr_of (by kernel_rfl)
instance : CmpT Tryz.prog 159 := cmp_of (by kernel_rfl)
instance : Mth Tryz.prog 159 "NumFields" 118 := mth_of (by kernel_rfl)
instance : Mth Tryz.prog 159 "Tag" 119 := mth_of (by kernel_rfl)
instance : Mth Tryz.prog 159 "Underlying" 258 := mth_of (by kernel_rfl)
instance : Mth Tryz.prog 159 "kindred/pub/gotypes.markComplete" 136 := mth_of (by kernel_rfl)
instance : Und Tryz.prog 163 (.int .u32) := ⟨by kernel_rfl⟩
instance : Scl Tryz.prog 163 := scl_of (by kernel_rfl)
instance : Inf Tryz.prog 163 1 := inf_of (by kernel_rfl)
instance : Zv Tryz.prog 163 (.int .u32 0) := zv_of (by kernel_rfl)
instance : Zro Tryz.prog 163 [(.int .u32 0)] := zro_of (v := (.int .u32 0)) (by kernel_rfl) rfl
instance : Agt Tryz.prog 164 1 := agt_of (by kernel_rfl)
instance : Fld Tryz.prog 164 0 0 := fld_of (by kernel_rfl)
instance : Plc Tryz.prog 164 [(0, 1)] := plc_of (by kernel_rfl)
instance : Inf Tryz.prog 164 1 := inf_of (by kernel_rfl)
instance : Zv Tryz.prog 164 (.agg #[.nilIface]) := zv_of (by kernel_rfl)
instance : Zro Tryz.prog 164 [.nilIface] := zro_of (v := (.agg #[.nilIface])) (by kernel_rfl) rfl
instance : Agt Tryz.prog 165 1 := agt_of (by kernel_rfl)
instance : Fld Tryz.prog 165 0 0 := fld_of (by kernel_rfl)
instance : Plc Tryz.prog 165 [(0, 1)] := plc_of (by kernel_rfl)
instance : Inf Tryz.prog 165 1 := inf_of (by kernel_rfl)
instance : Zv Tryz.prog 165 (.agg #[.nilIface]) := zv_of (by kernel_rfl)
instance : Zro Tryz.prog 165 [.nilIface] := zro_of (v := (.agg #[.nilIface])) (by kernel_rfl) rfl
instance : Agt Tryz.prog 168 4 := agt_of (by kernel_rfl)
instance : Fld Tryz.prog 168 0 0 := fld_of (by kernel_rfl)
instance : Fld Tryz.prog 168 1 1 := fld_of (by kernel_rfl)
instance : Fld Tryz.prog 168 2 2 := fld_of (by kernel_rfl)
instance : Fld Tryz.prog 168 3 3 := fld_of (by kernel_rfl)
instance : Plc Tryz.prog 168 [(0, 1), (1, 1), (2, 1), (3, 1)] := plc_of (by kernel_rfl)
instance : Inf Tryz.prog 168 4 := inf_of (by kernel_rfl)
instance : Zv Tryz.prog 168 (.agg #[(.int .i64 0), (.pointer none), (.string ⟨#[]⟩), .nilIface]) := zv_of (by kernel_rfl)
instance : Zro Tryz.prog 168 [(.int .i64 0), (.pointer none), (.string ⟨#[]⟩), .nilIface] := zro_of (v := (.agg #[(.int .i64 0), (.pointer none), (.string ⟨#[]⟩), .nilIface])) (by kernel_rfl) rfl
instance : Agt Tryz.prog 169 4 := agt_of (by kernel_rfl)
instance : Fld Tryz.prog 169 0 0 := fld_of (by kernel_rfl)
instance : Fld Tryz.prog 169 1 1 := fld_of (by kernel_rfl)
instance : Fld Tryz.prog 169 2 2 := fld_of (by kernel_rfl)
instance : Fld Tryz.prog 169 3 3 := fld_of (by kernel_rfl)
instance : Plc Tryz.prog 169 [(0, 1), (1, 1), (2, 1), (3, 1)] := plc_of (by kernel_rfl)
instance : Inf Tryz.prog 169 4 := inf_of (by kernel_rfl)
instance : Zv Tryz.prog 169 (.agg #[(.int .i64 0), (.pointer none), (.string ⟨#[]⟩), .nilIface]) := zv_of (by kernel_rfl)
instance : Zro Tryz.prog 169 [(.int .i64 0), (.pointer none), (.string ⟨#[]⟩), .nilIface] := zro_of (v := (.agg #[(.int .i64 0), (.pointer none), (.string ⟨#[]⟩), .nilIface])) (by kernel_rfl) rfl
instance : Agt Tryz.prog 170 4 := agt_of (by kernel_rfl)
instance : Fld Tryz.prog 170 0 0 := fld_of (by kernel_rfl)
instance : Plc Tryz.prog 170 [(0, 4)] := plc_of (by kernel_rfl)
instance : Inf Tryz.prog 170 4 := inf_of (by kernel_rfl)
instance : Zv Tryz.prog 170 (.agg #[(.int .i64 0), (.pointer none), (.string ⟨#[]⟩), .nilIface]) := zv_of (by kernel_rfl)
instance : Zro Tryz.prog 170 [(.int .i64 0), (.pointer none), (.string ⟨#[]⟩), .nilIface] := zro_of (v := (.agg #[(.int .i64 0), (.pointer none), (.string ⟨#[]⟩), .nilIface])) (by kernel_rfl) rfl
instance : Agt Tryz.prog 171 4 := agt_of (by kernel_rfl)
instance : Fld Tryz.prog 171 0 0 := fld_of (by kernel_rfl)
instance : Plc Tryz.prog 171 [(0, 4)] := plc_of (by kernel_rfl)
instance : Inf Tryz.prog 171 4 := inf_of (by kernel_rfl)
instance : Zv Tryz.prog 171 (.agg #[(.int .i64 0), (.pointer none), (.string ⟨#[]⟩), .nilIface]) := zv_of (by kernel_rfl)
instance : Zro Tryz.prog 171 [(.int .i64 0), (.pointer none), (.string ⟨#[]⟩), .nilIface] := zro_of (v := (.agg #[(.int .i64 0), (.pointer none), (.string ⟨#[]⟩), .nilIface])) (by kernel_rfl) rfl
instance : Agt Tryz.prog 172 6 := agt_of (by kernel_rfl)
instance : Fld Tryz.prog 172 0 0 := fld_of (by kernel_rfl)
instance : Fld Tryz.prog 172 1 4 := fld_of (by kernel_rfl)
instance : Fld Tryz.prog 172 2 5 := fld_of (by kernel_rfl)
instance : Plc Tryz.prog 172 [(0, 4), (4, 1), (5, 1)] := plc_of (by kernel_rfl)
instance : Inf Tryz.prog 172 6 := inf_of (by kernel_rfl)
instance : Zv Tryz.prog 172 (.agg #[(.int .i64 0), (.pointer none), (.string ⟨#[]⟩), .nilIface, (.bool false), (.bool false)]) := zv_of (by kernel_rfl)
instance : Zro Tryz.prog 172 [(.int .i64 0), (.pointer none), (.string ⟨#[]⟩), .nilIface, (.bool false), (.bool false)] := zro_of (v := (.agg #[(.int .i64 0), (.pointer none), (.string ⟨#[]⟩), .nilIface, (.bool false), (.bool false)])) (by kernel_rfl) rfl
instance : Agt Tryz.prog 173 6 := agt_of (by kernel_rfl)
instance : Fld Tryz.prog 173 0 0 := fld_of (by kernel_rfl)
instance : Fld Tryz.prog 173 1 4 := fld_of (by kernel_rfl)
instance : Fld Tryz.prog 173 2 5 := fld_of (by kernel_rfl)
instance : Plc Tryz.prog 173 [(0, 4), (4, 1), (5, 1)] := plc_of (by kernel_rfl)
instance : Inf Tryz.prog 173 6 := inf_of (by kernel_rfl)
instance : Zv Tryz.prog 173 (.agg #[(.int .i64 0), (.pointer none), (.string ⟨#[]⟩), .nilIface, (.bool false), (.bool false)]) := zv_of (by kernel_rfl)
instance : Zro Tryz.prog 173 [(.int .i64 0), (.pointer none), (.string ⟨#[]⟩), .nilIface, (.bool false), (.bool false)] := zro_of (v := (.agg #[(.int .i64 0), (.pointer none), (.string ⟨#[]⟩), .nilIface, (.bool false), (.bool false)])) (by kernel_rfl) rfl
instance : Und Tryz.prog 177 (.map 57 4) := ⟨by kernel_rfl⟩
instance : Scl Tryz.prog 177 := scl_of (by kernel_rfl)
instance : Inf Tryz.prog 177 1 := inf_of (by kernel_rfl)
instance : Zv Tryz.prog 177 (.map none) := zv_of (by kernel_rfl)
instance : Zro Tryz.prog 177 [(.map none)] := zro_of (v := (.map none)) (by kernel_rfl) rfl
instance : Und Tryz.prog 178 (.int .i64) := ⟨by kernel_rfl⟩
instance : Scl Tryz.prog 178 := scl_of (by kernel_rfl)
instance : Inf Tryz.prog 178 1 := inf_of (by kernel_rfl)
instance : Zv Tryz.prog 178 (.int .i64 0) := zv_of (by kernel_rfl)
instance : Zro Tryz.prog 178 [(.int .i64 0)] := zro_of (v := (.int .i64 0)) (by kernel_rfl) rfl
instance : Agt Tryz.prog 179 3 := agt_of (by kernel_rfl)
instance : Fld Tryz.prog 179 0 0 := fld_of (by kernel_rfl)
instance : Fld Tryz.prog 179 1 1 := fld_of (by kernel_rfl)
instance : Fld Tryz.prog 179 2 2 := fld_of (by kernel_rfl)
instance : Plc Tryz.prog 179 [(0, 1), (1, 1), (2, 1)] := plc_of (by kernel_rfl)
instance : Inf Tryz.prog 179 3 := inf_of (by kernel_rfl)
instance : Zv Tryz.prog 179 (.agg #[(.int .i64 0), (.int .i64 0), (.string ⟨#[]⟩)]) := zv_of (by kernel_rfl)
instance : Zro Tryz.prog 179 [(.int .i64 0), (.int .i64 0), (.string ⟨#[]⟩)] := zro_of (v := (.agg #[(.int .i64 0), (.int .i64 0), (.string ⟨#[]⟩)])) (by kernel_rfl) rfl
instance : Agt Tryz.prog 180 3 := agt_of (by kernel_rfl)
instance : Fld Tryz.prog 180 0 0 := fld_of (by kernel_rfl)
instance : Fld Tryz.prog 180 1 1 := fld_of (by kernel_rfl)
instance : Fld Tryz.prog 180 2 2 := fld_of (by kernel_rfl)
instance : Plc Tryz.prog 180 [(0, 1), (1, 1), (2, 1)] := plc_of (by kernel_rfl)
instance : Inf Tryz.prog 180 3 := inf_of (by kernel_rfl)
instance : Zv Tryz.prog 180 (.agg #[(.int .i64 0), (.int .i64 0), (.string ⟨#[]⟩)]) := zv_of (by kernel_rfl)
instance : Zro Tryz.prog 180 [(.int .i64 0), (.int .i64 0), (.string ⟨#[]⟩)] := zro_of (v := (.agg #[(.int .i64 0), (.int .i64 0), (.string ⟨#[]⟩)])) (by kernel_rfl) rfl
instance : Agt Tryz.prog 182 2 := agt_of (by kernel_rfl)
instance : Fld Tryz.prog 182 0 0 := fld_of (by kernel_rfl)
instance : Fld Tryz.prog 182 1 1 := fld_of (by kernel_rfl)
instance : Plc Tryz.prog 182 [(0, 1), (1, 1)] := plc_of (by kernel_rfl)
instance : Inf Tryz.prog 182 2 := inf_of (by kernel_rfl)
instance : Zv Tryz.prog 182 (.agg #[(.slice none 0 0), (.slice none 0 0)]) := zv_of (by kernel_rfl)
instance : Zro Tryz.prog 182 [(.slice none 0 0), (.slice none 0 0)] := zro_of (v := (.agg #[(.slice none 0 0), (.slice none 0 0)])) (by kernel_rfl) rfl
instance : Agt Tryz.prog 183 2 := agt_of (by kernel_rfl)
instance : Fld Tryz.prog 183 0 0 := fld_of (by kernel_rfl)
instance : Fld Tryz.prog 183 1 1 := fld_of (by kernel_rfl)
instance : Plc Tryz.prog 183 [(0, 1), (1, 1)] := plc_of (by kernel_rfl)
instance : Inf Tryz.prog 183 2 := inf_of (by kernel_rfl)
instance : Zv Tryz.prog 183 (.agg #[(.slice none 0 0), (.slice none 0 0)]) := zv_of (by kernel_rfl)
instance : Zro Tryz.prog 183 [(.slice none 0 0), (.slice none 0 0)] := zro_of (v := (.agg #[(.slice none 0 0), (.slice none 0 0)])) (by kernel_rfl) rfl
instance : Agt Tryz.prog 184 6 := agt_of (by kernel_rfl)
instance : Fld Tryz.prog 184 0 0 := fld_of (by kernel_rfl)
instance : Fld Tryz.prog 184 1 4 := fld_of (by kernel_rfl)
instance : Fld Tryz.prog 184 2 5 := fld_of (by kernel_rfl)
instance : Plc Tryz.prog 184 [(0, 4), (4, 1), (5, 1)] := plc_of (by kernel_rfl)
instance : Inf Tryz.prog 184 6 := inf_of (by kernel_rfl)
instance : Zv Tryz.prog 184 (.agg #[(.int .i64 0), (.pointer none), (.string ⟨#[]⟩), .nilIface, (.int .u8 0), (.bool false)]) := zv_of (by kernel_rfl)
instance : Zro Tryz.prog 184 [(.int .i64 0), (.pointer none), (.string ⟨#[]⟩), .nilIface, (.int .u8 0), (.bool false)] := zro_of (v := (.agg #[(.int .i64 0), (.pointer none), (.string ⟨#[]⟩), .nilIface, (.int .u8 0), (.bool false)])) (by kernel_rfl) rfl
instance : Agt Tryz.prog 185 6 := agt_of (by kernel_rfl)
instance : Fld Tryz.prog 185 0 0 := fld_of (by kernel_rfl)
instance : Fld Tryz.prog 185 1 4 := fld_of (by kernel_rfl)
instance : Fld Tryz.prog 185 2 5 := fld_of (by kernel_rfl)
instance : Plc Tryz.prog 185 [(0, 4), (4, 1), (5, 1)] := plc_of (by kernel_rfl)
instance : Inf Tryz.prog 185 6 := inf_of (by kernel_rfl)
instance : Zv Tryz.prog 185 (.agg #[(.int .i64 0), (.pointer none), (.string ⟨#[]⟩), .nilIface, (.int .u8 0), (.bool false)]) := zv_of (by kernel_rfl)
instance : Zro Tryz.prog 185 [(.int .i64 0), (.pointer none), (.string ⟨#[]⟩), .nilIface, (.int .u8 0), (.bool false)] := zro_of (v := (.agg #[(.int .i64 0), (.pointer none), (.string ⟨#[]⟩), .nilIface, (.int .u8 0), (.bool false)])) (by kernel_rfl) rfl
instance : Agt Tryz.prog 186 2 := agt_of (by kernel_rfl)
instance : Fld Tryz.prog 186 0 0 := fld_of (by kernel_rfl)
instance : Fld Tryz.prog 186 1 1 := fld_of (by kernel_rfl)
instance : Plc Tryz.prog 186 [(0, 1), (1, 1)] := plc_of (by kernel_rfl)
instance : Inf Tryz.prog 186 2 := inf_of (by kernel_rfl)
instance : Zv Tryz.prog 186 (.agg #[(.int .i64 0), .nilIface]) := zv_of (by kernel_rfl)
instance : Zro Tryz.prog 186 [(.int .i64 0), .nilIface] := zro_of (v := (.agg #[(.int .i64 0), .nilIface])) (by kernel_rfl) rfl
instance : Agt Tryz.prog 187 2 := agt_of (by kernel_rfl)
instance : Fld Tryz.prog 187 0 0 := fld_of (by kernel_rfl)
instance : Fld Tryz.prog 187 1 1 := fld_of (by kernel_rfl)
instance : Plc Tryz.prog 187 [(0, 1), (1, 1)] := plc_of (by kernel_rfl)
instance : Inf Tryz.prog 187 2 := inf_of (by kernel_rfl)
instance : Zv Tryz.prog 187 (.agg #[(.int .i64 0), .nilIface]) := zv_of (by kernel_rfl)
instance : Zro Tryz.prog 187 [(.int .i64 0), .nilIface] := zro_of (v := (.agg #[(.int .i64 0), .nilIface])) (by kernel_rfl) rfl
instance : Und Tryz.prog 191 (.pointer 109) := ⟨by kernel_rfl⟩
instance : Scl Tryz.prog 191 := scl_of (by kernel_rfl)
instance : Inf Tryz.prog 191 1 := inf_of (by kernel_rfl)
instance : Zv Tryz.prog 191 (.pointer none) := zv_of (by kernel_rfl)
instance : Zro Tryz.prog 191 [(.pointer none)] := zro_of (v := (.pointer none)) (by kernel_rfl) rfl
instance : PtrT Tryz.prog 191 := ptr_of (by kernel_rfl)
instance : CmpT Tryz.prog 191 := cmp_of (by kernel_rfl)
instance : Mth Tryz.prog 191 "kindred/pub/gotypes.identical" 78 := mth_of (by kernel_rfl)
instance : Und Tryz.prog 192 (.pointer 218) := ⟨by kernel_rfl⟩
instance : Scl Tryz.prog 192 := scl_of (by kernel_rfl)
instance : Inf Tryz.prog 192 1 := inf_of (by kernel_rfl)
instance : Zv Tryz.prog 192 (.pointer none) := zv_of (by kernel_rfl)
instance : Zro Tryz.prog 192 [(.pointer none)] := zro_of (v := (.pointer none)) (by kernel_rfl) rfl
instance : PtrT Tryz.prog 192 := ptr_of (by kernel_rfl)
instance : CmpT Tryz.prog 192 := cmp_of (by kernel_rfl)
instance : Mth Tryz.prog 192 "kindred/pub/gotypes.identical" 124 := mth_of (by kernel_rfl)
instance : Agt Tryz.prog 197 1 := agt_of (by kernel_rfl)
instance : Fld Tryz.prog 197 0 0 := fld_of (by kernel_rfl)
instance : Plc Tryz.prog 197 [(0, 1)] := plc_of (by kernel_rfl)
instance : Inf Tryz.prog 197 1 := inf_of (by kernel_rfl)
instance : Zv Tryz.prog 197 (.agg #[.nilIface]) := zv_of (by kernel_rfl)
instance : Zro Tryz.prog 197 [.nilIface] := zro_of (v := (.agg #[.nilIface])) (by kernel_rfl) rfl
instance : Agt Tryz.prog 198 1 := agt_of (by kernel_rfl)
instance : Fld Tryz.prog 198 0 0 := fld_of (by kernel_rfl)
instance : Plc Tryz.prog 198 [(0, 1)] := plc_of (by kernel_rfl)
instance : Inf Tryz.prog 198 1 := inf_of (by kernel_rfl)
instance : Zv Tryz.prog 198 (.agg #[.nilIface]) := zv_of (by kernel_rfl)
instance : Zro Tryz.prog 198 [.nilIface] := zro_of (v := (.agg #[.nilIface])) (by kernel_rfl) rfl
instance : Agt Tryz.prog 205 1 := agt_of (by kernel_rfl)
instance : Fld Tryz.prog 205 0 0 := fld_of (by kernel_rfl)
instance : Plc Tryz.prog 205 [(0, 1)] := plc_of (by kernel_rfl)
instance : Inf Tryz.prog 205 1 := inf_of (by kernel_rfl)
instance : Zv Tryz.prog 205 (.agg #[(.slice none 0 0)]) := zv_of (by kernel_rfl)
instance : Zro Tryz.prog 205 [(.slice none 0 0)] := zro_of (v := (.agg #[(.slice none 0 0)])) (by kernel_rfl) rfl
instance : Agt Tryz.prog 206 1 := agt_of (by kernel_rfl)
instance : Fld Tryz.prog 206 0 0 := fld_of (by kernel_rfl)
instance : Plc Tryz.prog 206 [(0, 1)] := plc_of (by kernel_rfl)
instance : Inf Tryz.prog 206 1 := inf_of (by kernel_rfl)
instance : Zv Tryz.prog 206 (.agg #[(.slice none 0 0)]) := zv_of (by kernel_rfl)
instance : Zro Tryz.prog 206 [(.slice none 0 0)] := zro_of (v := (.agg #[(.slice none 0 0)])) (by kernel_rfl) rfl
instance : Und Tryz.prog 208 (.pointer 271) := ⟨by kernel_rfl⟩
instance : Scl Tryz.prog 208 := scl_of (by kernel_rfl)
instance : Inf Tryz.prog 208 1 := inf_of (by kernel_rfl)
instance : Zv Tryz.prog 208 (.pointer none) := zv_of (by kernel_rfl)
instance : Zro Tryz.prog 208 [(.pointer none)] := zro_of (v := (.pointer none)) (by kernel_rfl) rfl
instance : PtrT Tryz.prog 208 := ptr_of (by kernel_rfl)
instance : CmpT Tryz.prog 208 := cmp_of (by kernel_rfl)
instance : Mth Tryz.prog 208 "Len" 259 := mth_of (by kernel_rfl)
instance : Mth Tryz.prog 208 "Underlying" 260 := mth_of (by kernel_rfl)
instance : Und Tryz.prog 210 (.map 208 132) := ⟨by kernel_rfl⟩
instance : Scl Tryz.prog 210 := scl_of (by kernel_rfl)
instance : Inf Tryz.prog 210 1 := inf_of (by kernel_rfl)
instance : Zv Tryz.prog 210 (.map none) := zv_of (by kernel_rfl)
instance : Zro Tryz.prog 210 [(.map none)] := zro_of (v := (.map none)) (by kernel_rfl) rfl
instance : Und Tryz.prog 212 (.slice 239) := ⟨by kernel_rfl⟩
instance : Scl Tryz.prog 212 := scl_of (by kernel_rfl)
instance : Inf Tryz.prog 212 1 := inf_of (by kernel_rfl)
instance : Zv Tryz.prog 212 (.slice none 0 0) := zv_of (by kernel_rfl)
instance : Zro Tryz.prog 212 [(.slice none 0 0)] := zro_of (v := (.slice none 0 0)) (by kernel_rfl) rfl
instance : Und Tryz.prog 213 (.slice 239) := ⟨by kernel_rfl⟩
instance : Scl Tryz.prog 213 := scl_of (by kernel_rfl)
instance : Inf Tryz.prog 213 1 := inf_of (by kernel_rfl)
instance : Zv Tryz.prog 213 (.slice none 0 0) := zv_of (by kernel_rfl)
instance : Zro Tryz.prog 213 [(.slice none 0 0)] := zro_of (v := (.slice none 0 0)) (by kernel_rfl) rfl
instance : Agt Tryz.prog 214 4 := agt_of (by kernel_rfl)
instance : Fld Tryz.prog 214 0 0 := fld_of (by kernel_rfl)
instance : Fld Tryz.prog 214 1 1 := fld_of (by kernel_rfl)
instance : Fld Tryz.prog 214 2 2 := fld_of (by kernel_rfl)
instance : Fld Tryz.prog 214 3 3 := fld_of (by kernel_rfl)
instance : Plc Tryz.prog 214 [(0, 1), (1, 1), (2, 1), (3, 1)] := plc_of (by kernel_rfl)
instance : Inf Tryz.prog 214 4 := inf_of (by kernel_rfl)
instance : Zv Tryz.prog 214 (.agg #[(.bool false), (.slice none 0 0), (.slice none 0 0), (.bool false)]) := zv_of (by kernel_rfl)
instance : Zro Tryz.prog 214 [(.bool false), (.slice none 0 0), (.slice none 0 0), (.bool false)] := zro_of (v := (.agg #[(.bool false), (.slice none 0 0), (.slice none 0 0), (.bool false)])) (by kernel_rfl) rfl
instance : Agt Tryz.prog 215 4 := agt_of (by kernel_rfl)
instance : Fld Tryz.prog 215 0 0 := fld_of (by kernel_rfl)
instance : Fld Tryz.prog 215 1 1 := fld_of (by kernel_rfl)
instance : Fld Tryz.prog 215 2 2 := fld_of (by kernel_rfl)
instance : Fld Tryz.prog 215 3 3 := fld_of (by kernel_rfl)
instance : Plc Tryz.prog 215 [(0, 1), (1, 1), (2, 1), (3, 1)] := plc_of (by kernel_rfl)
instance : Inf Tryz.prog 215 4 := inf_of (by kernel_rfl)
instance : Zv Tryz.prog 215 (.agg #[(.bool false), (.slice none 0 0), (.slice none 0 0), (.bool false)]) := zv_of (by kernel_rfl)
instance : Zro Tryz.prog 215 [(.bool false), (.slice none 0 0), (.slice none 0 0), (.bool false)] := zro_of (v := (.agg #[(.bool false), (.slice none 0 0), (.slice none 0 0), (.bool false)])) (by kernel_rfl) rfl
instance : Agt Tryz.prog 217 3 := agt_of (by kernel_rfl)
instance : Fld Tryz.prog 217 0 0 := fld_of (by kernel_rfl)
instance : Fld Tryz.prog 217 1 1 := fld_of (by kernel_rfl)
instance : Fld Tryz.prog 217 2 2 := fld_of (by kernel_rfl)
instance : Plc Tryz.prog 217 [(0, 1), (1, 1), (2, 1)] := plc_of (by kernel_rfl)
instance : Inf Tryz.prog 217 3 := inf_of (by kernel_rfl)
instance : Zv Tryz.prog 217 (.agg #[(.pointer none), (.pointer none), (.pointer none)]) := zv_of (by kernel_rfl)
instance : Zro Tryz.prog 217 [(.pointer none), (.pointer none), (.pointer none)] := zro_of (v := (.agg #[(.pointer none), (.pointer none), (.pointer none)])) (by kernel_rfl) rfl
instance : Agt Tryz.prog 218 3 := agt_of (by kernel_rfl)
instance : Fld Tryz.prog 218 0 0 := fld_of (by kernel_rfl)
instance : Fld Tryz.prog 218 1 1 := fld_of (by kernel_rfl)
instance : Fld Tryz.prog 218 2 2 := fld_of (by kernel_rfl)
instance : Plc Tryz.prog 218 [(0, 1), (1, 1), (2, 1)] := plc_of (by kernel_rfl)
instance : Inf Tryz.prog 218 3 := inf_of (by kernel_rfl)
instance : Zv Tryz.prog 218 (.agg #[(.pointer none), (.pointer none), (.pointer none)]) := zv_of (by kernel_rfl)
instance : Zro Tryz.prog 218 [(.pointer none), (.pointer none), (.pointer none)] := zro_of (v := (.agg #[(.pointer none), (.pointer none), (.pointer none)])) (by kernel_rfl) rfl
instance : Agt Tryz.prog 222 2 := agt_of (by kernel_rfl)
instance : Fld Tryz.prog 222 0 0 := fld_of (by kernel_rfl)
instance : Fld Tryz.prog 222 1 1 := fld_of (by kernel_rfl)
instance : Plc Tryz.prog 222 [(0, 1), (1, 1)] := plc_of (by kernel_rfl)
instance : Inf Tryz.prog 222 2 := inf_of (by kernel_rfl)
instance : Zv Tryz.prog 222 (.agg #[.nilIface, .nilIface]) := zv_of (by kernel_rfl)
instance : Zro Tryz.prog 222 [.nilIface, .nilIface] := zro_of (v := (.agg #[.nilIface, .nilIface])) (by kernel_rfl) rfl
instance : Agt Tryz.prog 223 2 := agt_of (by kernel_rfl)
instance : Fld Tryz.prog 223 0 0 := fld_of (by kernel_rfl)
instance : Fld Tryz.prog 223 1 1 := fld_of (by kernel_rfl)
instance : Plc Tryz.prog 223 [(0, 1), (1, 1)] := plc_of (by kernel_rfl)
instance : Inf Tryz.prog 223 2 := inf_of (by kernel_rfl)
instance : Zv Tryz.prog 223 (.agg #[.nilIface, .nilIface]) := zv_of (by kernel_rfl)
instance : Zro Tryz.prog 223 [.nilIface, .nilIface] := zro_of (v := (.agg #[.nilIface, .nilIface])) (by kernel_rfl) rfl
instance : Agt Tryz.prog 225 2 := agt_of (by kernel_rfl)
instance : Fld Tryz.prog 225 0 0 := fld_of (by kernel_rfl)
instance : Fld Tryz.prog 225 1 1 := fld_of (by kernel_rfl)
instance : Plc Tryz.prog 225 [(0, 1), (1, 1)] := plc_of (by kernel_rfl)
instance : Inf Tryz.prog 225 2 := inf_of (by kernel_rfl)
instance : Zv Tryz.prog 225 (.agg #[(.int .i64 0), .nilIface]) := zv_of (by kernel_rfl)
instance : Zro Tryz.prog 225 [(.int .i64 0), .nilIface] := zro_of (v := (.agg #[(.int .i64 0), .nilIface])) (by kernel_rfl) rfl
instance : Agt Tryz.prog 226 2 := agt_of (by kernel_rfl)
instance : Fld Tryz.prog 226 0 0 := fld_of (by kernel_rfl)
instance : Fld Tryz.prog 226 1 1 := fld_of (by kernel_rfl)
instance : Plc Tryz.prog 226 [(0, 1), (1, 1)] := plc_of (by kernel_rfl)
instance : Inf Tryz.prog 226 2 := inf_of (by kernel_rfl)
instance : Zv Tryz.prog 226 (.agg #[(.int .i64 0), .nilIface]) := zv_of (by kernel_rfl)
instance : Zro Tryz.prog 226 [(.int .i64 0), .nilIface] := zro_of (v := (.agg #[(.int .i64 0), .nilIface])) (by kernel_rfl) rfl
instance : Und Tryz.prog 228 (.pointer 375) := ⟨by kernel_rfl⟩
instance : Scl Tryz.prog 228 := scl_of (by kernel_rfl)
instance : Inf Tryz.prog 228 1 := inf_of (by kernel_rfl)
instance : Zv Tryz.prog 228 (.pointer none) := zv_of (by kernel_rfl)
instance : Zro Tryz.prog 228 [(.pointer none)] := zro_of (v := (.pointer none)) (by kernel_rfl) rfl
instance : CmpT Tryz.prog 228 := cmp_of (by kernel_rfl)
instance : Mth Tryz.prog 228 "Underlying" 261 := mth_of (by kernel_rfl)
instance : Mth Tryz.prog 228 "kindred/pub/gotypes.typeset" 191 := mth_of (by kernel_rfl)
instance : Und Tryz.prog 229 (.slice 123) := ⟨by kernel_rfl⟩
instance : Scl Tryz.prog 229 := scl_of (by kernel_rfl)
instance : Inf Tryz.prog 229 1 := inf_of (by kernel_rfl)
instance : Zv Tryz.prog 229 (.slice none 0 0) := zv_of (by kernel_rfl)
instance : Zro Tryz.prog 229 [(.slice none 0 0)] := zro_of (v := (.slice none 0 0)) (by kernel_rfl) rfl
instance : Und Tryz.prog 231 (.map 9 235) := ⟨by kernel_rfl⟩
instance : Scl Tryz.prog 231 := scl_of (by kernel_rfl)
instance : Inf Tryz.prog 231 1 := inf_of (by kernel_rfl)
instance : Zv Tryz.prog 231 (.map none) := zv_of (by kernel_rfl)
instance : Zro Tryz.prog 231 [(.map none)] := zro_of (v := (.map none)) (by kernel_rfl) rfl
instance : Und Tryz.prog 232 (.map 9 235) := ⟨by kernel_rfl⟩
instance : Scl Tryz.prog 232 := scl_of (by kernel_rfl)
instance : Inf Tryz.prog 232 1 := inf_of (by kernel_rfl)
instance : Zv Tryz.prog 232 (.map none) := zv_of (by kernel_rfl)
instance : Zro Tryz.prog 232 [(.map none)] := zro_of (v := (.map none)) (by kernel_rfl) rfl
instance : Und Tryz.prog 233 (.map 102 100) := ⟨by kernel_rfl⟩
instance : Scl Tryz.prog 233 := scl_of (by kernel_rfl)
instance : Inf Tryz.prog 233 1 := inf_of (by kernel_rfl)
instance : Zv Tryz.prog 233 (.map none) := zv_of (by kernel_rfl)
instance : Zro Tryz.prog 233 [(.map none)] := zro_of (v := (.map none)) (by kernel_rfl) rfl
instance : Und Tryz.prog 234 (.interface #[("Exported", 190), ("Id", 220), ("Name", 220), ("Pkg", 376), ("Pos", 377), ("Type", 62), ("kindred/pub/gotypes.sameId", 202), ("kindred/pub/gotypes.setType", 95)]) := ⟨by kernel_rfl⟩
instance : Scl Tryz.prog 234 := scl_of (by kernel_rfl)
instance : Inf Tryz.prog 234 1 := inf_of (by kernel_rfl)
instance : Zv Tryz.prog 234 .nilIface := zv_of (by kernel_rfl)
instance : Zro Tryz.prog 234 [.nilIface] := zro_of (v := .nilIface) (by kernel_rfl) rfl
instance : Und Tryz.prog 235 (.interface #[("Exported", 190), ("Id", 220), ("Name", 220), ("Pkg", 376), ("Pos", 377), ("Type", 62), ("kindred/pub/gotypes.sameId", 202), ("kindred/pub/gotypes.setType", 95)]) := ⟨by kernel_rfl⟩
instance : Scl Tryz.prog 235 := scl_of (by kernel_rfl)
instance : Inf Tryz.prog 235 1 := inf_of (by kernel_rfl)
instance : Zv Tryz.prog 235 .nilIface := zv_of (by kernel_rfl)
instance : Zro Tryz.prog 235 [.nilIface] := zro_of (v := .nilIface) (by kernel_rfl) rfl
instance : Und Tryz.prog 238 (.slice 100) := ⟨by kernel_rfl⟩
instance : Scl Tryz.prog 238 := scl_of (by kernel_rfl)
instance : Inf Tryz.prog 238 1 := inf_of (by kernel_rfl)
instance : Zv Tryz.prog 238 (.slice none 0 0) := zv_of (by kernel_rfl)
instance : Zro Tryz.prog 238 [(.slice none 0 0)] := zro_of (v := (.slice none 0 0)) (by kernel_rfl) rfl
instance : Und Tryz.prog 239 (.pointer 241) := ⟨by kernel_rfl⟩
instance : Scl Tryz.prog 239 := scl_of (by kernel_rfl)
instance : Inf Tryz.prog 239 1 := inf_of (by kernel_rfl)
instance : Zv Tryz.prog 239 (.pointer none) := zv_of (by kernel_rfl)
instance : Zro Tryz.prog 239 [(.pointer none)] := zro_of (v := (.pointer none)) (by kernel_rfl) rfl
instance : PtrT Tryz.prog 239 := ptr_of (by kernel_rfl)
instance : CmpT Tryz.prog 239 := cmp_of (by kernel_rfl)
instance : Mth Tryz.prog 239 "kindred/pub/gotypes.disjoint" 195 := mth_of (by kernel_rfl)
instance : Mth Tryz.prog 239 "kindred/pub/gotypes.intersect" 177 := mth_of (by kernel_rfl)
instance : Mth Tryz.prog 239 "kindred/pub/gotypes.subsetOf" 194 := mth_of (by kernel_rfl)
instance : Mth Tryz.prog 239 "kindred/pub/gotypes.union" 193 := mth_of (by kernel_rfl)
instance : Agt Tryz.prog 240 2 := agt_of (by kernel_rfl)
instance : Fld Tryz.prog 240 0 0 := fld_of (by kernel_rfl)
instance : Fld Tryz.prog 240 1 1 := fld_of (by kernel_rfl)
instance : Plc Tryz.prog 240 [(0, 1), (1, 1)] := plc_of (by kernel_rfl)
instance : Inf Tryz.prog 240 2 := inf_of (by kernel_rfl)
instance : Zv Tryz.prog 240 (.agg #[(.bool false), .nilIface]) := zv_of (by kernel_rfl)
instance : Zro Tryz.prog 240 [(.bool false), .nilIface] := zro_of (v := (.agg #[(.bool false), .nilIface])) (by kernel_rfl) rfl
instance : Agt Tryz.prog 241 2 := agt_of (by kernel_rfl)
instance : Fld Tryz.prog 241 0 0 := fld_of (by kernel_rfl)
instance : Fld Tryz.prog 241 1 1 := fld_of (by kernel_rfl)
instance : Plc Tryz.prog 241 [(0, 1), (1, 1)] := plc_of (by kernel_rfl)
instance : Inf Tryz.prog 241 2 := inf_of (by kernel_rfl)
instance : Zv Tryz.prog 241 (.agg #[(.bool false), .nilIface]) := zv_of (by kernel_rfl)
instance : Zro Tryz.prog 241 [(.bool false), .nilIface] := zro_of (v := (.agg #[(.bool false), .nilIface])) (by kernel_rfl) rfl
instance : Agt Tryz.prog 246 4 := agt_of (by kernel_rfl)
instance : Fld Tryz.prog 246 0 0 := fld_of (by kernel_rfl)
instance : Fld Tryz.prog 246 1 1 := fld_of (by kernel_rfl)
instance : Fld Tryz.prog 246 2 2 := fld_of (by kernel_rfl)
instance : Fld Tryz.prog 246 3 3 := fld_of (by kernel_rfl)
instance : Plc Tryz.prog 246 [(0, 1), (1, 1), (2, 1), (3, 1)] := plc_of (by kernel_rfl)
instance : Inf Tryz.prog 246 4 := inf_of (by kernel_rfl)
instance : Zv Tryz.prog 246 (.agg #[(.pointer none), (.pointer none), .nilIface, .nilIface]) := zv_of (by kernel_rfl)
instance : Zro Tryz.prog 246 [(.pointer none), (.pointer none), .nilIface, .nilIface] := zro_of (v := (.agg #[(.pointer none), (.pointer none), .nilIface, .nilIface])) (by kernel_rfl) rfl
instance : Agt Tryz.prog 247 4 := agt_of (by kernel_rfl)
instance : Fld Tryz.prog 247 0 0 := fld_of (by kernel_rfl)
instance : Fld Tryz.prog 247 1 1 := fld_of (by kernel_rfl)
instance : Fld Tryz.prog 247 2 2 := fld_of (by kernel_rfl)
instance : Fld Tryz.prog 247 3 3 := fld_of (by kernel_rfl)
instance : Plc Tryz.prog 247 [(0, 1), (1, 1), (2, 1), (3, 1)] := plc_of (by kernel_rfl)
instance : Inf Tryz.prog 247 4 := inf_of (by kernel_rfl)
instance : Zv Tryz.prog 247 (.agg #[(.pointer none), (.pointer none), .nilIface, .nilIface]) := zv_of (by kernel_rfl)
instance : Zro Tryz.prog 247 [(.pointer none), (.pointer none), .nilIface, .nilIface] := zro_of (v := (.agg #[(.pointer none), (.pointer none), .nilIface, .nilIface])) (by kernel_rfl) rfl
instance : Und Tryz.prog 249 (.pointer 143) := ⟨by kernel_rfl⟩
instance : Scl Tryz.prog 249 := scl_of (by kernel_rfl)
instance : Inf Tryz.prog 249 1 := inf_of (by kernel_rfl)
instance : Zv Tryz.prog 249 (.pointer none) := zv_of (by kernel_rfl)
instance : Zro Tryz.prog 249 [(.pointer none)] := zro_of (v := (.pointer none)) (by kernel_rfl) rfl
instance : PtrT Tryz.prog 249 := ptr_of (by kernel_rfl)
instance : CmpT Tryz.prog 249 := cmp_of (by kernel_rfl)
instance : Mth Tryz.prog 249 "Lock" 101 := mth_of (by kernel_rfl)
instance : Mth Tryz.prog 249 "Unlock" 102 := mth_of (by kernel_rfl)
instance : Und Tryz.prog 251 (.pointer 139) := ⟨by kernel_rfl⟩
instance : Scl Tryz.prog 251 := scl_of (by kernel_rfl)
instance : Inf Tryz.prog 251 1 := inf_of (by kernel_rfl)
instance : Zv Tryz.prog 251 (.pointer none) := zv_of (by kernel_rfl)
instance : Zro Tryz.prog 251 [(.pointer none)] := zro_of (v := (.pointer none)) (by kernel_rfl) rfl
instance : PtrT Tryz.prog 251 := ptr_of (by kernel_rfl)
instance : CmpT Tryz.prog 251 := cmp_of (by kernel_rfl)
instance : Und Tryz.prog 254 (.slice 228) := ⟨by kernel_rfl⟩
instance : Scl Tryz.prog 254 := scl_of (by kernel_rfl)
instance : Inf Tryz.prog 254 1 := inf_of (by kernel_rfl)
instance : Zv Tryz.prog 254 (.slice none 0 0) := zv_of (by kernel_rfl)
instance : Zro Tryz.prog 254 [(.slice none 0 0)] := zro_of (v := (.slice none 0 0)) (by kernel_rfl) rfl
instance : Und Tryz.prog 260 (.slice 20) := ⟨by kernel_rfl⟩
instance : Scl Tryz.prog 260 := scl_of (by kernel_rfl)
instance : Inf Tryz.prog 260 1 := inf_of (by kernel_rfl)
instance : Zv Tryz.prog 260 (.slice none 0 0) := zv_of (by kernel_rfl)
instance : Zro Tryz.prog 260 [(.slice none 0 0)] := zro_of (v := (.slice none 0 0)) (by kernel_rfl) rfl
instance : Agt Tryz.prog 261 2 := agt_of (by kernel_rfl)
instance : Fld Tryz.prog 261 0 0 := fld_of (by kernel_rfl)
instance : Fld Tryz.prog 261 1 1 := fld_of (by kernel_rfl)
instance : Plc Tryz.prog 261 [(0, 1), (1, 1)] := plc_of (by kernel_rfl)
instance : Inf Tryz.prog 261 2 := inf_of (by kernel_rfl)
instance : Zv Tryz.prog 261 (.agg #[(.string ⟨#[]⟩), (.slice none 0 0)]) := zv_of (by kernel_rfl)
instance : Zro Tryz.prog 261 [(.string ⟨#[]⟩), (.slice none 0 0)] := zro_of (v := (.agg #[(.string ⟨#[]⟩), (.slice none 0 0)])) (by kernel_rfl) rfl
instance : Agt Tryz.prog 262 2 := agt_of (by kernel_rfl)
instance : Fld Tryz.prog 262 0 0 := fld_of (by kernel_rfl)
instance : Fld Tryz.prog 262 1 1 := fld_of (by kernel_rfl)
instance : Plc Tryz.prog 262 [(0, 1), (1, 1)] := plc_of (by kernel_rfl)
instance : Inf Tryz.prog 262 2 := inf_of (by kernel_rfl)
instance : Zv Tryz.prog 262 (.agg #[(.string ⟨#[]⟩), (.slice none 0 0)]) := zv_of (by kernel_rfl)
instance : Zro Tryz.prog 262 [(.string ⟨#[]⟩), (.slice none 0 0)] := zro_of (v := (.agg #[(.string ⟨#[]⟩), (.slice none 0 0)])) (by kernel_rfl) rfl
instance : Und Tryz.prog 267 (.pointer 169) := ⟨by kernel_rfl⟩
instance : Scl Tryz.prog 267 := scl_of (by kernel_rfl)
instance : Inf Tryz.prog 267 1 := inf_of (by kernel_rfl)
instance : Zv Tryz.prog 267 (.pointer none) := zv_of (by kernel_rfl)
instance : Zro Tryz.prog 267 [(.pointer none)] := zro_of (v := (.pointer none)) (by kernel_rfl) rfl
instance : PtrT Tryz.prog 267 := ptr_of (by kernel_rfl)
instance : CmpT Tryz.prog 267 := cmp_of (by kernel_rfl)
instance : Mth Tryz.prog 267 "Exported" 152 := mth_of (by kernel_rfl)
instance : Mth Tryz.prog 267 "Id" 125 := mth_of (by kernel_rfl)
instance : Mth Tryz.prog 267 "Name" 262 := mth_of (by kernel_rfl)
instance : Mth Tryz.prog 267 "Pkg" 263 := mth_of (by kernel_rfl)
instance : Mth Tryz.prog 267 "Pos" 264 := mth_of (by kernel_rfl)
instance : Mth Tryz.prog 267 "Type" 265 := mth_of (by kernel_rfl)
instance : Mth Tryz.prog 267 "kindred/pub/gotypes.cmp" 180 := mth_of (by kernel_rfl)
instance : Mth Tryz.prog 267 "kindred/pub/gotypes.sameId" 120 := mth_of (by kernel_rfl)
instance : Mth Tryz.prog 267 "kindred/pub/gotypes.setType" 266 := mth_of (by kernel_rfl)
instance : Und Tryz.prog 269 (.slice 272) := ⟨by kernel_rfl⟩
instance : Scl Tryz.prog 269 := scl_of (by kernel_rfl)
instance : Inf Tryz.prog 269 1 := inf_of (by kernel_rfl)
instance : Zv Tryz.prog 269 (.slice none 0 0) := zv_of (by kernel_rfl)
instance : Zro Tryz.prog 269 [(.slice none 0 0)] := zro_of (v := (.slice none 0 0)) (by kernel_rfl) rfl
instance : Agt Tryz.prog 270 1 := agt_of (by kernel_rfl)
instance : Fld Tryz.prog 270 0 0 := fld_of (by kernel_rfl)
instance : Plc Tryz.prog 270 [(0, 1)] := plc_of (by kernel_rfl)
instance : Inf Tryz.prog 270 1 := inf_of (by kernel_rfl)
instance : Zv Tryz.prog 270 (.agg #[(.slice none 0 0)]) := zv_of (by kernel_rfl)
instance : Zro Tryz.prog 270 [(.slice none 0 0)] := zro_of (v := (.agg #[(.slice none 0 0)])) (by kernel_rfl) rfl
instance : Agt Tryz.prog 271 1 := agt_of (by kernel_rfl)
instance : Fld Tryz.prog 271 0 0 := fld_of (by kernel_rfl)
instance : Plc Tryz.prog 271 [(0, 1)] := plc_of (by kernel_rfl)
instance : Inf Tryz.prog 271 1 := inf_of (by kernel_rfl)
instance : Zv Tryz.prog 271 (.agg #[(.slice none 0 0)]) := zv_of (by kernel_rfl)
instance : Zro Tryz.prog 271 [(.slice none 0 0)] := zro_of (v := (.agg #[(.slice none 0 0)])) (by kernel_rfl) rfl
instance : Und Tryz.prog 272 (.pointer 273) := ⟨by kernel_rfl⟩
instance : Scl Tryz.prog 272 := scl_of (by kernel_rfl)
instance : Inf Tryz.prog 272 1 := inf_of (by kernel_rfl)
instance : Zv Tryz.prog 272 (.pointer none) := zv_of (by kernel_rfl)
instance : Zro Tryz.prog 272 [(.pointer none)] := zro_of (v := (.pointer none)) (by kernel_rfl) rfl
instance : PtrT Tryz.prog 272 := ptr_of (by kernel_rfl)
instance : CmpT Tryz.prog 272 := cmp_of (by kernel_rfl)
instance : Mth Tryz.prog 272 "Tilde" 267 := mth_of (by kernel_rfl)
instance : Mth Tryz.prog 272 "Type" 268 := mth_of (by kernel_rfl)
instance : Agt Tryz.prog 273 2 := agt_of (by kernel_rfl)
instance : Fld Tryz.prog 273 0 0 := fld_of (by kernel_rfl)
instance : Fld Tryz.prog 273 1 1 := fld_of (by kernel_rfl)
instance : Plc Tryz.prog 273 [(0, 1), (1, 1)] := plc_of (by kernel_rfl)
instance : Inf Tryz.prog 273 2 := inf_of (by kernel_rfl)
instance : Zv Tryz.prog 273 (.agg #[(.bool false), .nilIface]) := zv_of (by kernel_rfl)
instance : Zro Tryz.prog 273 [(.bool false), .nilIface] := zro_of (v := (.agg #[(.bool false), .nilIface])) (by kernel_rfl) rfl
instance : Und Tryz.prog 276 (.array 22 9) := ⟨by kernel_rfl⟩
instance : Agt Tryz.prog 276 22 := agt_of (by kernel_rfl)
instance : Inf Tryz.prog 276 22 := inf_of (by kernel_rfl)
instance : Zv Tryz.prog 276 (.agg #[(.string ⟨#[]⟩), (.string ⟨#[]⟩), (.string ⟨#[]⟩), (.string ⟨#[]⟩), (.string ⟨#[]⟩), (.string ⟨#[]⟩), (.string ⟨#[]⟩), (.string ⟨#[]⟩), (.string ⟨#[]⟩), (.string ⟨#[]⟩), (.string ⟨#[]⟩), (.string ⟨#[]⟩), (.string ⟨#[]⟩), (.string ⟨#[]⟩), (.string ⟨#[]⟩), (.string ⟨#[]⟩), (.string ⟨#[]⟩), (.string ⟨#[]⟩), (.string ⟨#[]⟩), (.string ⟨#[]⟩), (.string ⟨#[]⟩), (.string ⟨#[]⟩)]) := zv_of (by kernel_rfl)
instance : Zro Tryz.prog 276 [(.string ⟨#[]⟩), (.string ⟨#[]⟩), (.string ⟨#[]⟩), (.string ⟨#[]⟩), (.string ⟨#[]⟩), (.string ⟨#[]⟩), (.string ⟨#[]⟩), (.string ⟨#[]⟩), (.string ⟨#[]⟩), (.string ⟨#[]⟩), (.string ⟨#[]⟩), (.string ⟨#[]⟩), (.string ⟨#[]⟩), (.string ⟨#[]⟩), (.string ⟨#[]⟩), (.string ⟨#[]⟩), (.string ⟨#[]⟩), (.string ⟨#[]⟩), (.string ⟨#[]⟩), (.string ⟨#[]⟩), (.string ⟨#[]⟩), (.string ⟨#[]⟩)] := zro_of (v := (.agg #[(.string ⟨#[]⟩), (.string ⟨#[]⟩), (.string ⟨#[]⟩), (.string ⟨#[]⟩), (.string ⟨#[]⟩), (.string ⟨#[]⟩), (.string ⟨#[]⟩), (.string ⟨#[]⟩), (.string ⟨#[]⟩), (.string ⟨#[]⟩), (.string ⟨#[]⟩), (.string ⟨#[]⟩), (.string ⟨#[]⟩), (.string ⟨#[]⟩), (.string ⟨#[]⟩), (.string ⟨#[]⟩), (.string ⟨#[]⟩), (.string ⟨#[]⟩), (.string ⟨#[]⟩), (.string ⟨#[]⟩), (.string ⟨#[]⟩), (.string ⟨#[]⟩)])) (by kernel_rfl) rfl
instance : Und Tryz.prog 277 (.pointer 232) := ⟨by kernel_rfl⟩
instance : Scl Tryz.prog 277 := scl_of (by kernel_rfl)
instance : Inf Tryz.prog 277 1 := inf_of (by kernel_rfl)
instance : Zv Tryz.prog 277 (.pointer none) := zv_of (by kernel_rfl)
instance : Zro Tryz.prog 277 [(.pointer none)] := zro_of (v := (.pointer none)) (by kernel_rfl) rfl
instance : PtrT Tryz.prog 277 := ptr_of (by kernel_rfl)
instance : CmpT Tryz.prog 277 := cmp_of (by kernel_rfl)
instance : Mth Tryz.prog 277 "kindred/pub/gotypes.insert" 132 := mth_of (by kernel_rfl)
instance : Und Tryz.prog 280 (.pointer 141) := ⟨by kernel_rfl⟩
instance : Scl Tryz.prog 280 := scl_of (by kernel_rfl)
instance : Inf Tryz.prog 280 1 := inf_of (by kernel_rfl)
instance : Zv Tryz.prog 280 (.pointer none) := zv_of (by kernel_rfl)
instance : Zro Tryz.prog 280 [(.pointer none)] := zro_of (v := (.pointer none)) (by kernel_rfl) rfl
instance : PtrT Tryz.prog 280 := ptr_of (by kernel_rfl)
instance : CmpT Tryz.prog 280 := cmp_of (by kernel_rfl)
instance : Mth Tryz.prog 280 "Lock" 138 := mth_of (by kernel_rfl)
instance : Mth Tryz.prog 280 "Unlock" 139 := mth_of (by kernel_rfl)
instance : Mth Tryz.prog 280 "internal/sync.lockSlow" 163 := mth_of (by kernel_rfl)
instance : Mth Tryz.prog 280 "internal/sync.unlockSlow" 166 := mth_of (by kernel_rfl)
instance : Und Tryz.prog 282 (.pointer 21) := ⟨by kernel_rfl⟩
instance : Scl Tryz.prog 282 := scl_of (by kernel_rfl)
instance : Inf Tryz.prog 282 1 := inf_of (by kernel_rfl)
instance : Zv Tryz.prog 282 (.pointer none) := zv_of (by kernel_rfl)
instance : Zro Tryz.prog 282 [(.pointer none)] := zro_of (v := (.pointer none)) (by kernel_rfl) rfl
instance : PtrT Tryz.prog 282 := ptr_of (by kernel_rfl)
instance : CmpT Tryz.prog 282 := cmp_of (by kernel_rfl)
instance : Scl Tryz.prog 284 := scl_of (by kernel_rfl)
instance : Inf Tryz.prog 284 1 := inf_of (by kernel_rfl)
instance : Zv Tryz.prog 284 (.pointer none) := zv_of (by kernel_rfl)
instance : Zro Tryz.prog 284 [(.pointer none)] := zro_of (v := (.pointer none)) (by kernel_rfl) rfl
instance : Und Tryz.prog 296 (.int .u64) := ⟨by kernel_rfl⟩
instance : Scl Tryz.prog 296 := scl_of (by kernel_rfl)
instance : Inf Tryz.prog 296 1 := inf_of (by kernel_rfl)
instance : Zv Tryz.prog 296 (.int .u64 0) := zv_of (by kernel_rfl)
instance : Zro Tryz.prog 296 [(.int .u64 0)] := zro_of (v := (.int .u64 0)) (by kernel_rfl) rfl
instance : Und Tryz.prog 302 (.int .u16) := ⟨by kernel_rfl⟩
instance : Scl Tryz.prog 302 := scl_of (by kernel_rfl)
instance : Inf Tryz.prog 302 1 := inf_of (by kernel_rfl)
instance : Zv Tryz.prog 302 (.int .u16 0) := zv_of (by kernel_rfl)
instance : Zro Tryz.prog 302 [(.int .u16 0)] := zro_of (v := (.int .u16 0)) (by kernel_rfl) rfl
instance : Und Tryz.prog 303 (.array 128 302) := ⟨by kernel_rfl⟩
instance : Agt Tryz.prog 303 128 := agt_of (by kernel_rfl)
instance : Inf Tryz.prog 303 128 := inf_of (by kernel_rfl)
instance : Und Tryz.prog 304 (.slice 306) := ⟨by kernel_rfl⟩
instance : Scl Tryz.prog 304 := scl_of (by kernel_rfl)
instance : Inf Tryz.prog 304 1 := inf_of (by kernel_rfl)
instance : Zv Tryz.prog 304 (.slice none 0 0) := zv_of (by kernel_rfl)
instance : Zro Tryz.prog 304 [(.slice none 0 0)] := zro_of (v := (.slice none 0 0)) (by kernel_rfl) rfl
instance : Agt Tryz.prog 305 2 := agt_of (by kernel_rfl)
instance : Fld Tryz.prog 305 0 0 := fld_of (by kernel_rfl)
instance : Fld Tryz.prog 305 1 1 := fld_of (by kernel_rfl)
instance : Plc Tryz.prog 305 [(0, 1), (1, 1)] := plc_of (by kernel_rfl)
instance : Inf Tryz.prog 305 2 := inf_of (by kernel_rfl)
instance : Zv Tryz.prog 305 (.agg #[(.int .u16 0), (.int .u16 0)]) := zv_of (by kernel_rfl)
instance : Zro Tryz.prog 305 [(.int .u16 0), (.int .u16 0)] := zro_of (v := (.agg #[(.int .u16 0), (.int .u16 0)])) (by kernel_rfl) rfl
instance : Agt Tryz.prog 306 2 := agt_of (by kernel_rfl)
instance : Fld Tryz.prog 306 0 0 := fld_of (by kernel_rfl)
instance : Fld Tryz.prog 306 1 1 := fld_of (by kernel_rfl)
instance : Plc Tryz.prog 306 [(0, 1), (1, 1)] := plc_of (by kernel_rfl)
instance : Inf Tryz.prog 306 2 := inf_of (by kernel_rfl)
instance : Zv Tryz.prog 306 (.agg #[(.int .u16 0), (.int .u16 0)]) := zv_of (by kernel_rfl)
instance : Zro Tryz.prog 306 [(.int .u16 0), (.int .u16 0)] := zro_of (v := (.agg #[(.int .u16 0), (.int .u16 0)])) (by kernel_rfl) rfl
instance : Und Tryz.prog 307 (.pointer 335) := ⟨by kernel_rfl⟩
instance : Scl Tryz.prog 307 := scl_of (by kernel_rfl)
instance : Inf Tryz.prog 307 1 := inf_of (by kernel_rfl)
instance : Zv Tryz.prog 307 (.pointer none) := zv_of (by kernel_rfl)
instance : Zro Tryz.prog 307 [(.pointer none)] := zro_of (v := (.pointer none)) (by kernel_rfl) rfl
instance : PtrT Tryz.prog 307 := ptr_of (by kernel_rfl)
instance : CmpT Tryz.prog 307 := cmp_of (by kernel_rfl)
instance : Und Tryz.prog 309 (.slice 335) := ⟨by kernel_rfl⟩
instance : Scl Tryz.prog 309 := scl_of (by kernel_rfl)
instance : Inf Tryz.prog 309 1 := inf_of (by kernel_rfl)
instance : Zv Tryz.prog 309 (.slice none 0 0) := zv_of (by kernel_rfl)
instance : Zro Tryz.prog 309 [(.slice none 0 0)] := zro_of (v := (.slice none 0 0)) (by kernel_rfl) rfl
instance : Und Tryz.prog 313 (.slice 4) := ⟨by kernel_rfl⟩
instance : Scl Tryz.prog 313 := scl_of (by kernel_rfl)
instance : Inf Tryz.prog 313 1 := inf_of (by kernel_rfl)
instance : Zv Tryz.prog 313 (.slice none 0 0) := zv_of (by kernel_rfl)
instance : Zro Tryz.prog 313 [(.slice none 0 0)] := zro_of (v := (.slice none 0 0)) (by kernel_rfl) rfl
instance : Und Tryz.prog 317 (.int .i64) := ⟨by kernel_rfl⟩
instance : Scl Tryz.prog 317 := scl_of (by kernel_rfl)
instance : Inf Tryz.prog 317 1 := inf_of (by kernel_rfl)
instance : Zv Tryz.prog 317 (.int .i64 0) := zv_of (by kernel_rfl)
instance : Zro Tryz.prog 317 [(.int .i64 0)] := zro_of (v := (.int .i64 0)) (by kernel_rfl) rfl
instance : Und Tryz.prog 326 (.int .u64) := ⟨by kernel_rfl⟩
instance : Scl Tryz.prog 326 := scl_of (by kernel_rfl)
instance : Inf Tryz.prog 326 1 := inf_of (by kernel_rfl)
instance : Zv Tryz.prog 326 (.int .u64 0) := zv_of (by kernel_rfl)
instance : Zro Tryz.prog 326 [(.int .u64 0)] := zro_of (v := (.int .u64 0)) (by kernel_rfl) rfl
instance : Und Tryz.prog 328 (.array 256 5) := ⟨by kernel_rfl⟩
instance : Agt Tryz.prog 328 256 := agt_of (by kernel_rfl)
instance : Inf Tryz.prog 328 256 := inf_of (by kernel_rfl)
instance : Agt Tryz.prog 329 2 := agt_of (by kernel_rfl)
instance : Fld Tryz.prog 329 0 0 := fld_of (by kernel_rfl)
instance : Fld Tryz.prog 329 1 1 := fld_of (by kernel_rfl)
instance : Plc Tryz.prog 329 [(0, 1), (1, 1)] := plc_of (by kernel_rfl)
instance : Inf Tryz.prog 329 2 := inf_of (by kernel_rfl)
instance : Zv Tryz.prog 329 (.agg #[(.int .u8 0), (.int .u8 0)]) := zv_of (by kernel_rfl)
instance : Zro Tryz.prog 329 [(.int .u8 0), (.int .u8 0)] := zro_of (v := (.agg #[(.int .u8 0), (.int .u8 0)])) (by kernel_rfl) rfl
instance : Agt Tryz.prog 330 2 := agt_of (by kernel_rfl)
instance : Fld Tryz.prog 330 0 0 := fld_of (by kernel_rfl)
instance : Fld Tryz.prog 330 1 1 := fld_of (by kernel_rfl)
instance : Plc Tryz.prog 330 [(0, 1), (1, 1)] := plc_of (by kernel_rfl)
instance : Inf Tryz.prog 330 2 := inf_of (by kernel_rfl)
instance : Zv Tryz.prog 330 (.agg #[(.int .u8 0), (.int .u8 0)]) := zv_of (by kernel_rfl)
instance : Zro Tryz.prog 330 [(.int .u8 0), (.int .u8 0)] := zro_of (v := (.agg #[(.int .u8 0), (.int .u8 0)])) (by kernel_rfl) rfl
instance : Und Tryz.prog 331 (.array 16 330) := ⟨by kernel_rfl⟩
instance : Agt Tryz.prog 331 32 := agt_of (by kernel_rfl)
instance : Inf Tryz.prog 331 32 := inf_of (by kernel_rfl)
instance : Zv Tryz.prog 331 (.agg #[(.int .u8 0), (.int .u8 0), (.int .u8 0), (.int .u8 0), (.int .u8 0), (.int .u8 0), (.int .u8 0), (.int .u8 0), (.int .u8 0), (.int .u8 0), (.int .u8 0), (.int .u8 0), (.int .u8 0), (.int .u8 0), (.int .u8 0), (.int .u8 0), (.int .u8 0), (.int .u8 0), (.int .u8 0), (.int .u8 0), (.int .u8 0), (.int .u8 0), (.int .u8 0), (.int .u8 0), (.int .u8 0), (.int .u8 0), (.int .u8 0), (.int .u8 0), (.int .u8 0), (.int .u8 0), (.int .u8 0), (.int .u8 0)]) := zv_of (by kernel_rfl)
instance : Zro Tryz.prog 331 [(.int .u8 0), (.int .u8 0), (.int .u8 0), (.int .u8 0), (.int .u8 0), (.int .u8 0), (.int .u8 0), (.int .u8 0), (.int .u8 0), (.int .u8 0), (.int .u8 0), (.int .u8 0), (.int .u8 0), (.int .u8 0), (.int .u8 0), (.int .u8 0), (.int .u8 0), (.int .u8 0), (.int .u8 0), (.int .u8 0), (.int .u8 0), (.int .u8 0), (.int .u8 0), (.int .u8 0), (.int .u8 0), (.int .u8 0), (.int .u8 0), (.int .u8 0), (.int .u8 0), (.int .u8 0), (.int .u8 0), (.int .u8 0)] := zro_of (v := (.agg #[(.int .u8 0), (.int .u8 0), (.int .u8 0), (.int .u8 0), (.int .u8 0), (.int .u8 0), (.int .u8 0), (.int .u8 0), (.int .u8 0), (.int .u8 0), (.int .u8 0), (.int .u8 0), (.int .u8 0), (.int .u8 0), (.int .u8 0), (.int .u8 0), (.int .u8 0), (.int .u8 0), (.int .u8 0), (.int .u8 0), (.int .u8 0), (.int .u8 0), (.int .u8 0), (.int .u8 0), (.int .u8 0), (.int .u8 0), (.int .u8 0), (.int .u8 0), (.int .u8 0), (.int .u8 0), (.int .u8 0), (.int .u8 0)])) (by kernel_rfl) rfl
instance : Und Tryz.prog 332 (.array 3 21) := ⟨by kernel_rfl⟩
instance : Agt Tryz.prog 332 3 := agt_of (by kernel_rfl)
instance : Inf Tryz.prog 332 3 := inf_of (by kernel_rfl)
instance : Zv Tryz.prog 332 (.agg #[(.int .i32 0), (.int .i32 0), (.int .i32 0)]) := zv_of (by kernel_rfl)
instance : Zro Tryz.prog 332 [(.int .i32 0), (.int .i32 0), (.int .i32 0)] := zro_of (v := (.agg #[(.int .i32 0), (.int .i32 0), (.int .i32 0)])) (by kernel_rfl) rfl
instance : Und Tryz.prog 333 (.array 3 21) := ⟨by kernel_rfl⟩
instance : Agt Tryz.prog 333 3 := agt_of (by kernel_rfl)
instance : Inf Tryz.prog 333 3 := inf_of (by kernel_rfl)
instance : Zv Tryz.prog 333 (.agg #[(.int .i32 0), (.int .i32 0), (.int .i32 0)]) := zv_of (by kernel_rfl)
instance : Zro Tryz.prog 333 [(.int .i32 0), (.int .i32 0), (.int .i32 0)] := zro_of (v := (.agg #[(.int .i32 0), (.int .i32 0), (.int .i32 0)])) (by kernel_rfl) rfl
instance : Agt Tryz.prog 334 5 := agt_of (by kernel_rfl)
instance : Fld Tryz.prog 334 0 0 := fld_of (by kernel_rfl)
instance : Fld Tryz.prog 334 1 1 := fld_of (by kernel_rfl)
instance : Fld Tryz.prog 334 2 2 := fld_of (by kernel_rfl)
instance : Plc Tryz.prog 334 [(0, 1), (1, 1), (2, 3)] := plc_of (by kernel_rfl)
instance : Inf Tryz.prog 334 5 := inf_of (by kernel_rfl)
instance : Zv Tryz.prog 334 (.agg #[(.int .u32 0), (.int .u32 0), (.int .i32 0), (.int .i32 0), (.int .i32 0)]) := zv_of (by kernel_rfl)
instance : Zro Tryz.prog 334 [(.int .u32 0), (.int .u32 0), (.int .i32 0), (.int .i32 0), (.int .i32 0)] := zro_of (v := (.agg #[(.int .u32 0), (.int .u32 0), (.int .i32 0), (.int .i32 0), (.int .i32 0)])) (by kernel_rfl) rfl
instance : Agt Tryz.prog 335 5 := agt_of (by kernel_rfl)
instance : Fld Tryz.prog 335 0 0 := fld_of (by kernel_rfl)
instance : Fld Tryz.prog 335 1 1 := fld_of (by kernel_rfl)
instance : Fld Tryz.prog 335 2 2 := fld_of (by kernel_rfl)
instance : Plc Tryz.prog 335 [(0, 1), (1, 1), (2, 3)] := plc_of (by kernel_rfl)
instance : Inf Tryz.prog 335 5 := inf_of (by kernel_rfl)
instance : Zv Tryz.prog 335 (.agg #[(.int .u32 0), (.int .u32 0), (.int .i32 0), (.int .i32 0), (.int .i32 0)]) := zv_of (by kernel_rfl)
instance : Zro Tryz.prog 335 [(.int .u32 0), (.int .u32 0), (.int .i32 0), (.int .i32 0), (.int .i32 0)] := zro_of (v := (.agg #[(.int .u32 0), (.int .u32 0), (.int .i32 0), (.int .i32 0), (.int .i32 0)])) (by kernel_rfl) rfl
instance : Und Tryz.prog 337 (.pointer 347) := ⟨by kernel_rfl⟩
instance : Scl Tryz.prog 337 := scl_of (by kernel_rfl)
instance : Inf Tryz.prog 337 1 := inf_of (by kernel_rfl)
instance : Zv Tryz.prog 337 (.pointer none) := zv_of (by kernel_rfl)
instance : Zro Tryz.prog 337 [(.pointer none)] := zro_of (v := (.pointer none)) (by kernel_rfl) rfl
instance : PtrT Tryz.prog 337 := ptr_of (by kernel_rfl)
instance : CmpT Tryz.prog 337 := cmp_of (by kernel_rfl)
instance : Und Tryz.prog 338 (.int .u64) := ⟨by kernel_rfl⟩
instance : Scl Tryz.prog 338 := scl_of (by kernel_rfl)
instance : Inf Tryz.prog 338 1 := inf_of (by kernel_rfl)
instance : Zv Tryz.prog 338 (.int .u64 0) := zv_of (by kernel_rfl)
instance : Zro Tryz.prog 338 [(.int .u64 0)] := zro_of (v := (.int .u64 0)) (by kernel_rfl) rfl
instance : Und Tryz.prog 342 (.pointer 3) := ⟨by kernel_rfl⟩
instance : Scl Tryz.prog 342 := scl_of (by kernel_rfl)
instance : Inf Tryz.prog 342 1 := inf_of (by kernel_rfl)
instance : Zv Tryz.prog 342 (.pointer none) := zv_of (by kernel_rfl)
instance : Zro Tryz.prog 342 [(.pointer none)] := zro_of (v := (.pointer none)) (by kernel_rfl) rfl
instance : PtrT Tryz.prog 342 := ptr_of (by kernel_rfl)
instance : CmpT Tryz.prog 342 := cmp_of (by kernel_rfl)
instance : Und Tryz.prog 344 (.slice 349) := ⟨by kernel_rfl⟩
instance : Scl Tryz.prog 344 := scl_of (by kernel_rfl)
instance : Inf Tryz.prog 344 1 := inf_of (by kernel_rfl)
instance : Zv Tryz.prog 344 (.slice none 0 0) := zv_of (by kernel_rfl)
instance : Zro Tryz.prog 344 [(.slice none 0 0)] := zro_of (v := (.slice none 0 0)) (by kernel_rfl) rfl
instance : Und Tryz.prog 345 (.slice 352) := ⟨by kernel_rfl⟩
instance : Scl Tryz.prog 345 := scl_of (by kernel_rfl)
instance : Inf Tryz.prog 345 1 := inf_of (by kernel_rfl)
instance : Zv Tryz.prog 345 (.slice none 0 0) := zv_of (by kernel_rfl)
instance : Zro Tryz.prog 345 [(.slice none 0 0)] := zro_of (v := (.slice none 0 0)) (by kernel_rfl) rfl
instance : Agt Tryz.prog 346 3 := agt_of (by kernel_rfl)
instance : Fld Tryz.prog 346 0 0 := fld_of (by kernel_rfl)
instance : Fld Tryz.prog 346 1 1 := fld_of (by kernel_rfl)
instance : Fld Tryz.prog 346 2 2 := fld_of (by kernel_rfl)
instance : Plc Tryz.prog 346 [(0, 1), (1, 1), (2, 1)] := plc_of (by kernel_rfl)
instance : Inf Tryz.prog 346 3 := inf_of (by kernel_rfl)
instance : Zv Tryz.prog 346 (.agg #[(.slice none 0 0), (.slice none 0 0), (.int .i64 0)]) := zv_of (by kernel_rfl)
instance : Zro Tryz.prog 346 [(.slice none 0 0), (.slice none 0 0), (.int .i64 0)] := zro_of (v := (.agg #[(.slice none 0 0), (.slice none 0 0), (.int .i64 0)])) (by kernel_rfl) rfl
instance : Agt Tryz.prog 347 3 := agt_of (by kernel_rfl)
instance : Fld Tryz.prog 347 0 0 := fld_of (by kernel_rfl)
instance : Fld Tryz.prog 347 1 1 := fld_of (by kernel_rfl)
instance : Fld Tryz.prog 347 2 2 := fld_of (by kernel_rfl)
instance : Plc Tryz.prog 347 [(0, 1), (1, 1), (2, 1)] := plc_of (by kernel_rfl)
instance : Inf Tryz.prog 347 3 := inf_of (by kernel_rfl)
instance : Zv Tryz.prog 347 (.agg #[(.slice none 0 0), (.slice none 0 0), (.int .i64 0)]) := zv_of (by kernel_rfl)
instance : Zro Tryz.prog 347 [(.slice none 0 0), (.slice none 0 0), (.int .i64 0)] := zro_of (v := (.agg #[(.slice none 0 0), (.slice none 0 0), (.int .i64 0)])) (by kernel_rfl) rfl
instance : Agt Tryz.prog 348 3 := agt_of (by kernel_rfl)
instance : Fld Tryz.prog 348 0 0 := fld_of (by kernel_rfl)
instance : Fld Tryz.prog 348 1 1 := fld_of (by kernel_rfl)
instance : Fld Tryz.prog 348 2 2 := fld_of (by kernel_rfl)
instance : Plc Tryz.prog 348 [(0, 1), (1, 1), (2, 1)] := plc_of (by kernel_rfl)
instance : Inf Tryz.prog 348 3 := inf_of (by kernel_rfl)
instance : Zv Tryz.prog 348 (.agg #[(.int .u16 0), (.int .u16 0), (.int .u16 0)]) := zv_of (by kernel_rfl)
instance : Zro Tryz.prog 348 [(.int .u16 0), (.int .u16 0), (.int .u16 0)] := zro_of (v := (.agg #[(.int .u16 0), (.int .u16 0), (.int .u16 0)])) (by kernel_rfl) rfl
instance : Agt Tryz.prog 349 3 := agt_of (by kernel_rfl)
instance : Fld Tryz.prog 349 0 0 := fld_of (by kernel_rfl)
instance : Fld Tryz.prog 349 1 1 := fld_of (by kernel_rfl)
instance : Fld Tryz.prog 349 2 2 := fld_of (by kernel_rfl)
instance : Plc Tryz.prog 349 [(0, 1), (1, 1), (2, 1)] := plc_of (by kernel_rfl)
instance : Inf Tryz.prog 349 3 := inf_of (by kernel_rfl)
instance : Zv Tryz.prog 349 (.agg #[(.int .u16 0), (.int .u16 0), (.int .u16 0)]) := zv_of (by kernel_rfl)
instance : Zro Tryz.prog 349 [(.int .u16 0), (.int .u16 0), (.int .u16 0)] := zro_of (v := (.agg #[(.int .u16 0), (.int .u16 0), (.int .u16 0)])) (by kernel_rfl) rfl
instance : Agt Tryz.prog 351 3 := agt_of (by kernel_rfl)
instance : Fld Tryz.prog 351 0 0 := fld_of (by kernel_rfl)
instance : Fld Tryz.prog 351 1 1 := fld_of (by kernel_rfl)
instance : Fld Tryz.prog 351 2 2 := fld_of (by kernel_rfl)
instance : Plc Tryz.prog 351 [(0, 1), (1, 1), (2, 1)] := plc_of (by kernel_rfl)
instance : Inf Tryz.prog 351 3 := inf_of (by kernel_rfl)
instance : Zv Tryz.prog 351 (.agg #[(.int .u32 0), (.int .u32 0), (.int .u32 0)]) := zv_of (by kernel_rfl)
instance : Zro Tryz.prog 351 [(.int .u32 0), (.int .u32 0), (.int .u32 0)] := zro_of (v := (.agg #[(.int .u32 0), (.int .u32 0), (.int .u32 0)])) (by kernel_rfl) rfl
instance : Agt Tryz.prog 352 3 := agt_of (by kernel_rfl)
instance : Fld Tryz.prog 352 0 0 := fld_of (by kernel_rfl)
instance : Fld Tryz.prog 352 1 1 := fld_of (by kernel_rfl)
instance : Fld Tryz.prog 352 2 2 := fld_of (by kernel_rfl)
instance : Plc Tryz.prog 352 [(0, 1), (1, 1), (2, 1)] := plc_of (by kernel_rfl)
instance : Inf Tryz.prog 352 3 := inf_of (by kernel_rfl)
instance : Zv Tryz.prog 352 (.agg #[(.int .u32 0), (.int .u32 0), (.int .u32 0)]) := zv_of (by kernel_rfl)
instance : Zro Tryz.prog 352 [(.int .u32 0), (.int .u32 0), (.int .u32 0)] := zro_of (v := (.agg #[(.int .u32 0), (.int .u32 0), (.int .u32 0)])) (by kernel_rfl) rfl
instance : Und Tryz.prog 354 (.pointer 338) := ⟨by kernel_rfl⟩
instance : Scl Tryz.prog 354 := scl_of (by kernel_rfl)
instance : Inf Tryz.prog 354 1 := inf_of (by kernel_rfl)
instance : Zv Tryz.prog 354 (.pointer none) := zv_of (by kernel_rfl)
instance : Zro Tryz.prog 354 [(.pointer none)] := zro_of (v := (.pointer none)) (by kernel_rfl) rfl
instance : PtrT Tryz.prog 354 := ptr_of (by kernel_rfl)
instance : CmpT Tryz.prog 354 := cmp_of (by kernel_rfl)
instance : Mth Tryz.prog 354 "Next" 210 := mth_of (by kernel_rfl)
instance : Und Tryz.prog 357 (.pointer 349) := ⟨by kernel_rfl⟩
instance : Scl Tryz.prog 357 := scl_of (by kernel_rfl)
instance : Inf Tryz.prog 357 1 := inf_of (by kernel_rfl)
instance : Zv Tryz.prog 357 (.pointer none) := zv_of (by kernel_rfl)
instance : Zro Tryz.prog 357 [(.pointer none)] := zro_of (v := (.pointer none)) (by kernel_rfl) rfl
instance : PtrT Tryz.prog 357 := ptr_of (by kernel_rfl)
instance : CmpT Tryz.prog 357 := cmp_of (by kernel_rfl)
instance : Und Tryz.prog 358 (.pointer 352) := ⟨by kernel_rfl⟩
instance : Scl Tryz.prog 358 := scl_of (by kernel_rfl)
instance : Inf Tryz.prog 358 1 := inf_of (by kernel_rfl)
instance : Zv Tryz.prog 358 (.pointer none) := zv_of (by kernel_rfl)
instance : Zro Tryz.prog 358 [(.pointer none)] := zro_of (v := (.pointer none)) (by kernel_rfl) rfl
instance : PtrT Tryz.prog 358 := ptr_of (by kernel_rfl)
instance : CmpT Tryz.prog 358 := cmp_of (by kernel_rfl)
instance : Agt Tryz.prog 359 4 := agt_of (by kernel_rfl)
instance : Fld Tryz.prog 359 0 0 := fld_of (by kernel_rfl)
instance : Fld Tryz.prog 359 1 1 := fld_of (by kernel_rfl)
instance : Fld Tryz.prog 359 2 2 := fld_of (by kernel_rfl)
instance : Fld Tryz.prog 359 3 3 := fld_of (by kernel_rfl)
instance : Plc Tryz.prog 359 [(0, 1), (1, 1), (2, 1), (3, 1)] := plc_of (by kernel_rfl)
instance : Inf Tryz.prog 359 4 := inf_of (by kernel_rfl)
instance : Zv Tryz.prog 359 (.agg #[(.pointer none), (.pointer none), (.pointer none), (.string ⟨#[]⟩)]) := zv_of (by kernel_rfl)
instance : Zro Tryz.prog 359 [(.pointer none), (.pointer none), (.pointer none), (.string ⟨#[]⟩)] := zro_of (v := (.agg #[(.pointer none), (.pointer none), (.pointer none), (.string ⟨#[]⟩)])) (by kernel_rfl) rfl
instance : Agt Tryz.prog 360 4 := agt_of (by kernel_rfl)
instance : Fld Tryz.prog 360 0 0 := fld_of (by kernel_rfl)
instance : Fld Tryz.prog 360 1 1 := fld_of (by kernel_rfl)
instance : Fld Tryz.prog 360 2 2 := fld_of (by kernel_rfl)
instance : Fld Tryz.prog 360 3 3 := fld_of (by kernel_rfl)
instance : Plc Tryz.prog 360 [(0, 1), (1, 1), (2, 1), (3, 1)] := plc_of (by kernel_rfl)
instance : Inf Tryz.prog 360 4 := inf_of (by kernel_rfl)
instance : Zv Tryz.prog 360 (.agg #[(.pointer none), (.pointer none), (.pointer none), (.string ⟨#[]⟩)]) := zv_of (by kernel_rfl)
instance : Zro Tryz.prog 360 [(.pointer none), (.pointer none), (.pointer none), (.string ⟨#[]⟩)] := zro_of (v := (.agg #[(.pointer none), (.pointer none), (.pointer none), (.string ⟨#[]⟩)])) (by kernel_rfl) rfl
instance : Und Tryz.prog 361 (.array 0 16) := ⟨by kernel_rfl⟩
instance : Agt Tryz.prog 361 0 := agt_of (by kernel_rfl)
instance : Inf Tryz.prog 361 0 := inf_of (by kernel_rfl)
instance : Zv Tryz.prog 361 (.agg #[]) := zv_of (by kernel_rfl)
instance : Zro Tryz.prog 361 [] := zro_of (v := (.agg #[])) (by kernel_rfl) rfl
instance : Agt Tryz.prog 362 0 := agt_of (by kernel_rfl)
instance : Plc Tryz.prog 362 [(0, 0)] := plc_of (by kernel_rfl)
instance : Inf Tryz.prog 362 0 := inf_of (by kernel_rfl)
instance : Zv Tryz.prog 362 (.agg #[]) := zv_of (by kernel_rfl)
instance : Zro Tryz.prog 362 [] := zro_of (v := (.agg #[])) (by kernel_rfl) rfl
instance : Agt Tryz.prog 363 0 := agt_of (by kernel_rfl)
instance : Plc Tryz.prog 363 [(0, 0)] := plc_of (by kernel_rfl)
instance : Inf Tryz.prog 363 0 := inf_of (by kernel_rfl)
instance : Zv Tryz.prog 363 (.agg #[]) := zv_of (by kernel_rfl)
instance : Zro Tryz.prog 363 [] := zro_of (v := (.agg #[])) (by kernel_rfl) rfl
instance : Und Tryz.prog 364 (.int .u8) := ⟨by kernel_rfl⟩
instance : Scl Tryz.prog 364 := scl_of (by kernel_rfl)
instance : Inf Tryz.prog 364 1 := inf_of (by kernel_rfl)
instance : Zv Tryz.prog 364 (.int .u8 0) := zv_of (by kernel_rfl)
instance : Zro Tryz.prog 364 [(.int .u8 0)] := zro_of (v := (.int .u8 0)) (by kernel_rfl) rfl
instance : Und Tryz.prog 365 (.int .u8) := ⟨by kernel_rfl⟩
instance : Scl Tryz.prog 365 := scl_of (by kernel_rfl)
instance : Inf Tryz.prog 365 1 := inf_of (by kernel_rfl)
instance : Zv Tryz.prog 365 (.int .u8 0) := zv_of (by kernel_rfl)
instance : Zro Tryz.prog 365 [(.int .u8 0)] := zro_of (v := (.int .u8 0)) (by kernel_rfl) rfl
instance : Und Tryz.prog 367 (.pointer 5) := ⟨by kernel_rfl⟩
instance : Scl Tryz.prog 367 := scl_of (by kernel_rfl)
instance : Inf Tryz.prog 367 1 := inf_of (by kernel_rfl)
instance : Zv Tryz.prog 367 (.pointer none) := zv_of (by kernel_rfl)
instance : Zro Tryz.prog 367 [(.pointer none)] := zro_of (v := (.pointer none)) (by kernel_rfl) rfl
instance : PtrT Tryz.prog 367 := ptr_of (by kernel_rfl)
instance : CmpT Tryz.prog 367 := cmp_of (by kernel_rfl)
instance : Und Tryz.prog 368 (.int .i32) := ⟨by kernel_rfl⟩
instance : Scl Tryz.prog 368 := scl_of (by kernel_rfl)
instance : Inf Tryz.prog 368 1 := inf_of (by kernel_rfl)
instance : Zv Tryz.prog 368 (.int .i32 0) := zv_of (by kernel_rfl)
instance : Zro Tryz.prog 368 [(.int .i32 0)] := zro_of (v := (.int .i32 0)) (by kernel_rfl) rfl
instance : Und Tryz.prog 369 (.int .i32) := ⟨by kernel_rfl⟩
instance : Scl Tryz.prog 369 := scl_of (by kernel_rfl)
instance : Inf Tryz.prog 369 1 := inf_of (by kernel_rfl)
instance : Zv Tryz.prog 369 (.int .i32 0) := zv_of (by kernel_rfl)
instance : Zro Tryz.prog 369 [(.int .i32 0)] := zro_of (v := (.int .i32 0)) (by kernel_rfl) rfl
instance : Agt Tryz.prog 370 11 := agt_of (by kernel_rfl)
instance : Fld Tryz.prog 370 0 0 := fld_of (by kernel_rfl)
instance : Fld Tryz.prog 370 1 1 := fld_of (by kernel_rfl)
instance : Fld Tryz.prog 370 2 2 := fld_of (by kernel_rfl)
instance : Fld Tryz.prog 370 3 3 := fld_of (by kernel_rfl)
instance : Fld Tryz.prog 370 4 4 := fld_of (by kernel_rfl)
instance : Fld Tryz.prog 370 5 5 := fld_of (by kernel_rfl)
instance : Fld Tryz.prog 370 6 6 := fld_of (by kernel_rfl)
instance : Fld Tryz.prog 370 7 7 := fld_of (by kernel_rfl)
instance : Fld Tryz.prog 370 8 8 := fld_of (by kernel_rfl)
instance : Fld Tryz.prog 370 9 9 := fld_of (by kernel_rfl)
instance : Fld Tryz.prog 370 10 10 := fld_of (by kernel_rfl)
instance : Plc Tryz.prog 370 [(0, 1), (1, 1), (2, 1), (3, 1), (4, 1), (5, 1), (6, 1), (7, 1), (8, 1), (9, 1), (10, 1)] := plc_of (by kernel_rfl)
instance : Inf Tryz.prog 370 11 := inf_of (by kernel_rfl)
instance : Zv Tryz.prog 370 (.agg #[(.int .u64 0), (.int .u64 0), (.int .u32 0), (.int .u8 0), (.int .u8 0), (.int .u8 0), (.int .u8 0), .nilFunc, (.pointer none), (.int .i32 0), (.int .i32 0)]) := zv_of (by kernel_rfl)
instance : Zro Tryz.prog 370 [(.int .u64 0), (.int .u64 0), (.int .u32 0), (.int .u8 0), (.int .u8 0), (.int .u8 0), (.int .u8 0), .nilFunc, (.pointer none), (.int .i32 0), (.int .i32 0)] := zro_of (v := (.agg #[(.int .u64 0), (.int .u64 0), (.int .u32 0), (.int .u8 0), (.int .u8 0), (.int .u8 0), (.int .u8 0), .nilFunc, (.pointer none), (.int .i32 0), (.int .i32 0)])) (by kernel_rfl) rfl
instance : Agt Tryz.prog 371 11 := agt_of (by kernel_rfl)
instance : Fld Tryz.prog 371 0 0 := fld_of (by kernel_rfl)
instance : Fld Tryz.prog 371 1 1 := fld_of (by kernel_rfl)
instance : Fld Tryz.prog 371 2 2 := fld_of (by kernel_rfl)
instance : Fld Tryz.prog 371 3 3 := fld_of (by kernel_rfl)
instance : Fld Tryz.prog 371 4 4 := fld_of (by kernel_rfl)
instance : Fld Tryz.prog 371 5 5 := fld_of (by kernel_rfl)
instance : Fld Tryz.prog 371 6 6 := fld_of (by kernel_rfl)
instance : Fld Tryz.prog 371 7 7 := fld_of (by kernel_rfl)
instance : Fld Tryz.prog 371 8 8 := fld_of (by kernel_rfl)
instance : Fld Tryz.prog 371 9 9 := fld_of (by kernel_rfl)
instance : Fld Tryz.prog 371 10 10 := fld_of (by kernel_rfl)
instance : Plc Tryz.prog 371 [(0, 1), (1, 1), (2, 1), (3, 1), (4, 1), (5, 1), (6, 1), (7, 1), (8, 1), (9, 1), (10, 1)] := plc_of (by kernel_rfl)
instance : Inf Tryz.prog 371 11 := inf_of (by kernel_rfl)
instance : Zv Tryz.prog 371 (.agg #[(.int .u64 0), (.int .u64 0), (.int .u32 0), (.int .u8 0), (.int .u8 0), (.int .u8 0), (.int .u8 0), .nilFunc, (.pointer none), (.int .i32 0), (.int .i32 0)]) := zv_of (by kernel_rfl)
instance : Zro Tryz.prog 371 [(.int .u64 0), (.int .u64 0), (.int .u32 0), (.int .u8 0), (.int .u8 0), (.int .u8 0), (.int .u8 0), .nilFunc, (.pointer none), (.int .i32 0), (.int .i32 0)] := zro_of (v := (.agg #[(.int .u64 0), (.int .u64 0), (.int .u32 0), (.int .u8 0), (.int .u8 0), (.int .u8 0), (.int .u8 0), .nilFunc, (.pointer none), (.int .i32 0), (.int .i32 0)])) (by kernel_rfl) rfl
instance : Und Tryz.prog 372 (.slice 85) := ⟨by kernel_rfl⟩
instance : Scl Tryz.prog 372 := scl_of (by kernel_rfl)
instance : Inf Tryz.prog 372 1 := inf_of (by kernel_rfl)
instance : Zv Tryz.prog 372 (.slice none 0 0) := zv_of (by kernel_rfl)
instance : Zro Tryz.prog 372 [(.slice none 0 0)] := zro_of (v := (.slice none 0 0)) (by kernel_rfl) rfl
instance : Agt Tryz.prog 373 0 := agt_of (by kernel_rfl)
instance : Plc Tryz.prog 373 [] := plc_of (by kernel_rfl)
instance : Inf Tryz.prog 373 0 := inf_of (by kernel_rfl)
instance : Zv Tryz.prog 373 (.agg #[]) := zv_of (by kernel_rfl)
instance : Zro Tryz.prog 373 [] := zro_of (v := (.agg #[])) (by kernel_rfl) rfl
instance : Agt Tryz.prog 375 0 := agt_of (by kernel_rfl)
instance : Plc Tryz.prog 375 [] := plc_of (by kernel_rfl)
instance : Inf Tryz.prog 375 0 := inf_of (by kernel_rfl)
instance : Zv Tryz.prog 375 (.agg #[]) := zv_of (by kernel_rfl)
instance : Zro Tryz.prog 375 [] := zro_of (v := (.agg #[])) (by kernel_rfl) rfl
instance : Byt Tryz.prog 3 := byt_of (by kernel_rfl)
instance : Byt Tryz.prog 4 := byt_of (by kernel_rfl)
instance : Byt Tryz.prog 9 := byt_of (by kernel_rfl)
instance : Byt Tryz.prog 20 := byt_of (by kernel_rfl)
instance : Byt Tryz.prog 26 := byt_of (by kernel_rfl)
instance : Byt Tryz.prog 45 := byt_of (by kernel_rfl)
instance : Byt Tryz.prog 57 := byt_of (by kernel_rfl)
instance : Byt Tryz.prog 78 := byt_of (by kernel_rfl)
instance : Byt Tryz.prog 79 := byt_of (by kernel_rfl)
instance : Byt Tryz.prog 85 := byt_of (by kernel_rfl)
instance : Byt Tryz.prog 98 := byt_of (by kernel_rfl)
instance : Byt Tryz.prog 100 := byt_of (by kernel_rfl)
instance : Byt Tryz.prog 102 := byt_of (by kernel_rfl)
instance : Byt Tryz.prog 113 := byt_of (by kernel_rfl)
instance : Byt Tryz.prog 123 := byt_of (by kernel_rfl)
instance : Byt Tryz.prog 228 := byt_of (by kernel_rfl)
instance : Byt Tryz.prog 239 := byt_of (by kernel_rfl)
instance : Byt Tryz.prog 272 := byt_of (by kernel_rfl)
instance : Byt Tryz.prog 306 := byt_of (by kernel_rfl)
instance : Byt Tryz.prog 335 := byt_of (by kernel_rfl)
instance : Byt Tryz.prog 349 := byt_of (by kernel_rfl)
instance : Byt Tryz.prog 352 := byt_of (by kernel_rfl)
instance : Fun Tryz.prog 3 := fun_of (by kernel_rfl)
instance : Fun Tryz.prog 4 := fun_of (by kernel_rfl)
instance : Fun Tryz.prog 5 := fun_of (by kernel_rfl)
instance : Fun Tryz.prog 6 := fun_of (by kernel_rfl)
instance : Fun Tryz.prog 7 := fun_of (by kernel_rfl)
instance : Fun Tryz.prog 8 := fun_of (by kernel_rfl)
instance : Fun Tryz.prog 9 := fun_of (by kernel_rfl)
instance : Fun Tryz.prog 10 := fun_of (by kernel_rfl)
instance : Fun Tryz.prog 11 := fun_of (by kernel_rfl)
instance : Fun Tryz.prog 12 := fun_of (by kernel_rfl)
instance : Fun Tryz.prog 13 := fun_of (by kernel_rfl)
instance : Fun Tryz.prog 14 := fun_of (by kernel_rfl)
instance : Fun Tryz.prog 15 := fun_of (by kernel_rfl)
instance : Fun Tryz.prog 16 := fun_of (by kernel_rfl)
instance : Fun Tryz.prog 17 := fun_of (by kernel_rfl)
instance : Fun Tryz.prog 18 := fun_of (by kernel_rfl)
instance : Fun Tryz.prog 19 := fun_of (by kernel_rfl)
instance : Fun Tryz.prog 20 := fun_of (by kernel_rfl)
instance : Fun Tryz.prog 21 := fun_of (by kernel_rfl)
instance : Fun Tryz.prog 22 := fun_of (by kernel_rfl)
instance : Fun Tryz.prog 23 := fun_of (by kernel_rfl)
instance : Fun Tryz.prog 24 := fun_of (by kernel_rfl)
instance : Fun Tryz.prog 25 := fun_of (by kernel_rfl)
instance : Fun Tryz.prog 26 := fun_of (by kernel_rfl)
instance : Fun Tryz.prog 27 := fun_of (by kernel_rfl)
instance : Fun Tryz.prog 28 := fun_of (by kernel_rfl)
instance : Fun Tryz.prog 29 := fun_of (by kernel_rfl)
instance : Fun Tryz.prog 30 := fun_of (by kernel_rfl)
instance : Fun Tryz.prog 31 := fun_of (by kernel_rfl)
instance : Fun Tryz.prog 32 := fun_of (by kernel_rfl)
instance : Fun Tryz.prog 33 := fun_of (by kernel_rfl)
instance : Fun Tryz.prog 34 := fun_of (by kernel_rfl)
instance : Fun Tryz.prog 35 := fun_of (by kernel_rfl)
instance : Fun Tryz.prog 36 := fun_of (by kernel_rfl)
instance : Fun Tryz.prog 37 := fun_of (by kernel_rfl)
instance : Fun Tryz.prog 38 := fun_of (by kernel_rfl)
instance : Fun Tryz.prog 39 := fun_of (by kernel_rfl)
instance : Fun Tryz.prog 40 := fun_of (by kernel_rfl)
instance : Fun Tryz.prog 41 := fun_of (by kernel_rfl)
instance : Fun Tryz.prog 42 := fun_of (by kernel_rfl)
instance : Fun Tryz.prog 43 := fun_of (by kernel_rfl)
instance : Fun Tryz.prog 44 := fun_of (by kernel_rfl)
instance : Fun Tryz.prog 45 := fun_of (by kernel_rfl)
instance : Fun Tryz.prog 46 := fun_of (by kernel_rfl)
instance : Fun Tryz.prog 47 := fun_of (by kernel_rfl)
instance : Fun Tryz.prog 48 := fun_of (by kernel_rfl)
instance : Fun Tryz.prog 49 := fun_of (by kernel_rfl)
instance : Fun Tryz.prog 50 := fun_of (by kernel_rfl)
instance : Fun Tryz.prog 51 := fun_of (by kernel_rfl)
instance : Fun Tryz.prog 52 := fun_of (by kernel_rfl)
instance : Fun Tryz.prog 53 := fun_of (by kernel_rfl)
instance : Fun Tryz.prog 54 := fun_of (by kernel_rfl)
instance : Fun Tryz.prog 55 := fun_of (by kernel_rfl)
instance : Fun Tryz.prog 56 := fun_of (by kernel_rfl)
instance : Fun Tryz.prog 57 := fun_of (by kernel_rfl)
instance : Fun Tryz.prog 58 := fun_of (by kernel_rfl)
instance : Fun Tryz.prog 59 := fun_of (by kernel_rfl)
instance : Fun Tryz.prog 60 := fun_of (by kernel_rfl)
instance : Fun Tryz.prog 61 := fun_of (by kernel_rfl)
instance : Fun Tryz.prog 62 := fun_of (by kernel_rfl)
instance : Fun Tryz.prog 63 := fun_of (by kernel_rfl)
instance : Fun Tryz.prog 64 := fun_of (by kernel_rfl)
instance : Fun Tryz.prog 65 := fun_of (by kernel_rfl)
instance : Fun Tryz.prog 66 := fun_of (by kernel_rfl)
instance : Fun Tryz.prog 67 := fun_of (by kernel_rfl)
instance : Fun Tryz.prog 68 := fun_of (by kernel_rfl)
instance : Fun Tryz.prog 69 := fun_of (by kernel_rfl)
instance : Fun Tryz.prog 70 := fun_of (by kernel_rfl)
instance : Fun Tryz.prog 71 := fun_of (by kernel_rfl)
instance : Fun Tryz.prog 72 := fun_of (by kernel_rfl)
instance : Fun Tryz.prog 73 := fun_of (by kernel_rfl)
instance : Fun Tryz.prog 74 := fun_of (by kernel_rfl)
instance : Fun Tryz.prog 75 := fun_of (by kernel_rfl)
instance : Fun Tryz.prog 76 := fun_of (by kernel_rfl)
instance : Fun Tryz.prog 77 := fun_of (by kernel_rfl)
instance : Fun Tryz.prog 78 := fun_of (by kernel_rfl)
instance : Fun Tryz.prog 79 := fun_of (by kernel_rfl)
instance : Fun Tryz.prog 80 := fun_of (by kernel_rfl)
instance : Fun Tryz.prog 81 := fun_of (by kernel_rfl)
instance : Fun Tryz.prog 82 := fun_of (by kernel_rfl)
instance : Fun Tryz.prog 83 := fun_of (by kernel_rfl)
instance : Fun Tryz.prog 84 := fun_of (by kernel_rfl)
instance : Fun Tryz.prog 85 := fun_of (by kernel_rfl)
instance : Fun Tryz.prog 86 := fun_of (by kernel_rfl)
instance : Fun Tryz.prog 87 := fun_of (by kernel_rfl)
instance : Fun Tryz.prog 88 := fun_of (by kernel_rfl)
instance : Fun Tryz.prog 89 := fun_of (by kernel_rfl)
instance : Fun Tryz.prog 90 := fun_of (by kernel_rfl)
instance : Fun Tryz.prog 91 := fun_of (by kernel_rfl)
instance : Fun Tryz.prog 92 := fun_of (by kernel_rfl)
instance : Fun Tryz.prog 93 := fun_of (by kernel_rfl)
instance : Fun Tryz.prog 94 := fun_of (by kernel_rfl)
instance : Fun Tryz.prog 95 := fun_of (by kernel_rfl)
instance : Fun Tryz.prog 96 := fun_of (by kernel_rfl)
instance : Fun Tryz.prog 97 := fun_of (by kernel_rfl)
instance : Fun Tryz.prog 98 := fun_of (by kernel_rfl)
instance : Fun Tryz.prog 99 := fun_of (by kernel_rfl)
instance : Fun Tryz.prog 100 := fun_of (by kernel_rfl)
instance : Fun Tryz.prog 101 := fun_of (by kernel_rfl)
instance : Fun Tryz.prog 102 := fun_of (by kernel_rfl)
instance : Fun Tryz.prog 103 := fun_of (by kernel_rfl)
instance : Fun Tryz.prog 104 := fun_of (by kernel_rfl)
instance : Fun Tryz.prog 105 := fun_of (by kernel_rfl)
instance : Fun Tryz.prog 106 := fun_of (by kernel_rfl)
instance : Fun Tryz.prog 107 := fun_of (by kernel_rfl)
instance : Fun Tryz.prog 108 := fun_of (by kernel_rfl)
instance : Fun Tryz.prog 109 := fun_of (by kernel_rfl)
instance : Fun Tryz.prog 110 := fun_of (by kernel_rfl)
instance : Fun Tryz.prog 111 := fun_of (by kernel_rfl)
instance : Fun Tryz.prog 112 := fun_of (by kernel_rfl)
instance : Fun Tryz.prog 113 := fun_of (by kernel_rfl)
instance : Fun Tryz.prog 114 := fun_of (by kernel_rfl)
instance : Fun Tryz.prog 115 := fun_of (by kernel_rfl)
instance : Fun Tryz.prog 116 := fun_of (by kernel_rfl)
instance : Fun Tryz.prog 117 := fun_of (by kernel_rfl)
instance : Fun Tryz.prog 118 := fun_of (by kernel_rfl)
instance : Fun Tryz.prog 119 := fun_of (by kernel_rfl)
instance : Fun Tryz.prog 120 := fun_of (by kernel_rfl)
instance : Fun Tryz.prog 121 := fun_of (by kernel_rfl)
instance : Fun Tryz.prog 122 := fun_of (by kernel_rfl)
instance : Fun Tryz.prog 123 := fun_of (by kernel_rfl)
instance : Fun Tryz.prog 124 := fun_of (by kernel_rfl)
instance : Fun Tryz.prog 125 := fun_of (by kernel_rfl)
instance : Fun Tryz.prog 126 := fun_of (by kernel_rfl)
instance : Fun Tryz.prog 127 := fun_of (by kernel_rfl)
instance : Fun Tryz.prog 128 := fun_of (by kernel_rfl)
instance : Fun Tryz.prog 129 := fun_of (by kernel_rfl)
instance : Fun Tryz.prog 130 := fun_of (by kernel_rfl)
instance : Fun Tryz.prog 131 := fun_of (by kernel_rfl)
instance : Fun Tryz.prog 132 := fun_of (by kernel_rfl)
instance : Fun Tryz.prog 133 := fun_of (by kernel_rfl)
instance : Fun Tryz.prog 134 := fun_of (by kernel_rfl)
instance : Fun Tryz.prog 135 := fun_of (by kernel_rfl)
instance : Fun Tryz.prog 136 := fun_of (by kernel_rfl)
instance : Fun Tryz.prog 137 := fun_of (by kernel_rfl)
instance : Fun Tryz.prog 138 := fun_of (by kernel_rfl)
instance : Fun Tryz.prog 139 := fun_of (by kernel_rfl)
instance : Fun Tryz.prog 141 := fun_of (by kernel_rfl)
instance : Fun Tryz.prog 142 := fun_of (by kernel_rfl)
instance : Fun Tryz.prog 143 := fun_of (by kernel_rfl)
instance : Fun Tryz.prog 144 := fun_of (by kernel_rfl)
instance : Fun Tryz.prog 145 := fun_of (by kernel_rfl)
instance : Fun Tryz.prog 146 := fun_of (by kernel_rfl)
instance : Fun Tryz.prog 147 := fun_of (by kernel_rfl)
instance : Fun Tryz.prog 148 := fun_of (by kernel_rfl)
instance : Fun Tryz.prog 149 := fun_of (by kernel_rfl)
instance : Fun Tryz.prog 150 := fun_of (by kernel_rfl)
instance : Fun Tryz.prog 151 := fun_of (by kernel_rfl)
instance : Fun Tryz.prog 152 := fun_of (by kernel_rfl)
instance : Fun Tryz.prog 153 := fun_of (by kernel_rfl)
instance : Fun Tryz.prog 154 := fun_of (by kernel_rfl)
instance : Fun Tryz.prog 155 := fun_of (by kernel_rfl)
instance : Fun Tryz.prog 156 := fun_of (by kernel_rfl)
instance : Fun Tryz.prog 157 := fun_of (by kernel_rfl)
instance : Fun Tryz.prog 158 := fun_of (by kernel_rfl)
instance : Fun Tryz.prog 163 := fun_of (by kernel_rfl)
instance : Fun Tryz.prog 166 := fun_of (by kernel_rfl)
instance : Fun Tryz.prog 168 := fun_of (by kernel_rfl)
instance : Fun Tryz.prog 169 := fun_of (by kernel_rfl)
instance : Fun Tryz.prog 170 := fun_of (by kernel_rfl)
instance : Fun Tryz.prog 171 := fun_of (by kernel_rfl)
instance : Fun Tryz.prog 172 := fun_of (by kernel_rfl)
instance : Fun Tryz.prog 173 := fun_of (by kernel_rfl)
instance : Fun Tryz.prog 174 := fun_of (by kernel_rfl)
instance : Fun Tryz.prog 175 := fun_of (by kernel_rfl)
instance : Fun Tryz.prog 176 := fun_of (by kernel_rfl)
instance : Fun Tryz.prog 177 := fun_of (by kernel_rfl)
instance : Fun Tryz.prog 178 := fun_of (by kernel_rfl)
instance : Fun Tryz.prog 179 := fun_of (by kernel_rfl)
instance : Fun Tryz.prog 180 := fun_of (by kernel_rfl)
instance : Fun Tryz.prog 188 := fun_of (by kernel_rfl)
instance : Fun Tryz.prog 189 := fun_of (by kernel_rfl)
instance : Fun Tryz.prog 190 := fun_of (by kernel_rfl)
instance : Fun Tryz.prog 191 := fun_of (by kernel_rfl)
instance : Fun Tryz.prog 192 := fun_of (by kernel_rfl)
instance : Fun Tryz.prog 193 := fun_of (by kernel_rfl)
instance : Fun Tryz.prog 194 := fun_of (by kernel_rfl)
instance : Fun Tryz.prog 195 := fun_of (by kernel_rfl)
instance : Fun Tryz.prog 196 := fun_of (by kernel_rfl)
instance : Fun Tryz.prog 197 := fun_of (by kernel_rfl)
instance : Fun Tryz.prog 198 := fun_of (by kernel_rfl)
instance : Fun Tryz.prog 199 := fun_of (by kernel_rfl)
instance : Fun Tryz.prog 200 := fun_of (by kernel_rfl)
instance : Fun Tryz.prog 201 := fun_of (by kernel_rfl)
instance : Fun Tryz.prog 202 := fun_of (by kernel_rfl)
instance : Fun Tryz.prog 203 := fun_of (by kernel_rfl)
instance : Fun Tryz.prog 204 := fun_of (by kernel_rfl)
instance : Fun Tryz.prog 205 := fun_of (by kernel_rfl)
instance : Fun Tryz.prog 206 := fun_of (by kernel_rfl)
instance : Fun Tryz.prog 207 := fun_of (by kernel_rfl)
instance : Fun Tryz.prog 208 := fun_of (by kernel_rfl)
instance : Fun Tryz.prog 209 := fun_of (by kernel_rfl)
instance : Fun Tryz.prog 210 := fun_of (by kernel_rfl)
instance : Fun Tryz.prog 211 := fun_of (by kernel_rfl)
instance : Fun Tryz.prog 212 := fun_of (by kernel_rfl)
instance : Fun Tryz.prog 213 := fun_of (by kernel_rfl)
instance : Fun Tryz.prog 214 := fun_of (by kernel_rfl)
instance : Fun Tryz.prog 215 := fun_of (by kernel_rfl)
instance : Fun Tryz.prog 216 := fun_of (by kernel_rfl)
instance : Fun Tryz.prog 234 := fun_of (by kernel_rfl)
instance : Fun Tryz.prog 236 := fun_of (by kernel_rfl)
instance : Fun Tryz.prog 237 := fun_of (by kernel_rfl)
instance : Fun Tryz.prog 238 := fun_of (by kernel_rfl)
instance : Fun Tryz.prog 239 := fun_of (by kernel_rfl)
instance : Fun Tryz.prog 240 := fun_of (by kernel_rfl)
instance : Fun Tryz.prog 242 := fun_of (by kernel_rfl)
instance : Fun Tryz.prog 244 := fun_of (by kernel_rfl)
instance : Fun Tryz.prog 247 := fun_of (by kernel_rfl)
instance : Fun Tryz.prog 248 := fun_of (by kernel_rfl)
instance : Fun Tryz.prog 251 := fun_of (by kernel_rfl)
instance : Fun Tryz.prog 253 := fun_of (by kernel_rfl)
instance : Fun Tryz.prog 255 := fun_of (by kernel_rfl)
instance : Fun Tryz.prog 257 := fun_of (by kernel_rfl)
instance : Fun Tryz.prog 258 := fun_of (by kernel_rfl)
instance : Fun Tryz.prog 260 := fun_of (by kernel_rfl)
instance : Fun Tryz.prog 261 := fun_of (by kernel_rfl)
instance : Fun Tryz.prog 279 := fun_of (by kernel_rfl)
end Go.Proofs.YtelmnkfdpnkpoaaGreatDoor
namespace Go.Proofs.YtelmnkfdpnkpoaaGreatDoor
open Go Go.Kd

def us : List UInt8 := [95]
def letter (c : UInt8) : Bool := decide (97 ≤ (c ||| 32).toNat) && decide ((c ||| 32).toNat ≤ 122)
def digit (c : UInt8) : Bool := decide (48 ≤ c.toNat) && decide (c.toNat ≤ 57)
structure Ident (s : List UInt8) : Prop where
  ne : s ≠ []
  at_ : s = us ∨ ∀ (i : Nat) c, s[i]? = some c → letter c = true ∨ (i ≠ 0 ∧ digit c = true)
structure Uniq (l : List (List UInt8)) : Prop where
  id : ∀ (i : Nat) s, l[i]? = some s → Ident s
  un : ∀ (i j : Nat) s, i < j → l[i]? = some s → l[j]? = some s → s = us
def names (l : List Ty) : List (List UInt8) := l.map fun t => t.name.toList
def basicNm : List (List UInt8) := [[98, 111, 111, 108], [105, 110, 116], [105, 110, 116, 56], [105, 110, 116, 49, 54], [105, 110, 116, 51, 50], [105, 110, 116, 54, 52], [117, 105, 110, 116], [117, 105, 110, 116, 56],
  [117, 105, 110, 116, 49, 54], [117, 105, 110, 116, 51, 50], [117, 105, 110, 116, 54, 52], [117, 105, 110, 116, 112, 116, 114], [102, 108, 111, 97, 116, 51, 50], [102, 108, 111, 97, 116, 54, 52],
  [99, 111, 109, 112, 108, 101, 120, 54, 52], [99, 111, 109, 112, 108, 101, 120, 49, 50, 56], [115, 116, 114, 105, 110, 103], [80, 111, 105, 110, 116, 101, 114], [98, 121, 116, 101], [114, 117, 110, 101], [101, 114, 114, 111, 114], [97, 110, 121]]
def typeNm (D : List De) (t : Ty) : List UInt8 := if t.kind = 1 then (match D[t.n.toNat]? with | some e => e.name.toList | none => []) else if t.kind = 0 then basicNm.getD t.n.toNat [] else []
def isUns (u : Ty) : Prop := u.kind = 0 ∧ u.n = 17
/-- what a struct may embed -/
structure MayEmb (D : List De) (t e : Ty) : Prop where
  el : (t.kind = 2 ∧ t.elems[0]? = some e) ∨ (t.kind ≠ 2 ∧ e = t)
  kd : e.kind = 0 ∨ e.kind = 1
  nm : t.name.toList = typeNm D e
  np : (underT D e).kind ≠ 2
  nu : ¬ isUns (underT D e)
  ni : t.kind = 2 → (underT D e).kind ≠ 9

/-- comparable or not -/
inductive Cmp (D : List De) : Ty → Bool → Prop
  | no (t : Ty) : (underT D t).kind = 3 ∨ (underT D t).kind = 5 ∨ (underT D t).kind = 8 → Cmp D t false
  | yes (t : Ty) : (underT D t).kind = 0 ∨ (underT D t).kind = 1 ∨ (underT D t).kind = 2 ∨ (underT D t).kind = 6 ∨ (underT D t).kind = 9 → Cmp D t true
  | all (t : Ty) (bs : List Bool) : (underT D t).kind = 4 ∨ (underT D t).kind = 7 → bs.length = (underT D t).elems.length →
      (∀ (i : Nat) e b, (underT D t).elems[i]? = some e → bs[i]? = some b → Cmp D e b) → Cmp D t (bs.all id)

structure Cons (D : List De) (t : Ty) (all : List Mt) : Prop where
  im : IM D t all
  ifc : ∀ (i : Nat) e, t.elems[i]? = some e → ¬ (i : Int) < t.count → (underT D e).kind = 9
  same : ∀ (i : Nat) e, t.elems[i]? = some e → ¬ (i : Int) < t.count → ∃ ms, IM D e ms ∧ ∀ m ∈ ms, ∀ n, findM all m.name.toList m.pkg = some n → ∃ x y, Exp D m.fn x ∧ Exp D n.fn y ∧ idX true x y = true
def unnamedT (l : List Ty) : Prop := ∀ t ∈ l, t.name.toList = []
structure LegalAt (D : List De) (t : Ty) : Prop where
  map : t.kind = 5 → ∀ k, t.elems[0]? = some k → Cmp D k true
  emb : t.kind = 7 → ∀ (i : Nat) e, t.elems[i]? = some e → e.emb = true → ∃ b, MayEmb D e b
  fld : t.kind = 7 → Uniq (names t.elems)
  par : t.kind = 8 → unnamedT (t.elems.take t.count.toNat) ∨ Uniq (names (t.elems.take t.count.toNat))
  res : t.kind = 8 → unnamedT (t.elems.drop t.count.toNat) ∨ Uniq (names (t.elems.drop t.count.toNat))
  mth : t.kind = 9 → ∀ (i : Nat) e, t.elems[i]? = some e → (i : Int) < t.count → e.name.toList ≠ us
  unq : t.kind = 9 → Uniq (names (t.elems.take t.count.toNat))
  con : t.kind = 9 → ∃ all, Cons D t all
inductive Legal (D : List De) : Ty → Prop
  | mk (t : Ty) : (∀ (i : Nat) e, t.elems[i]? = some e → Legal D e) → LegalAt D t → Legal D t
theorem Legal.el {D : List De} {t : Ty} (h : Legal D t) : ∀ (i : Nat) e, t.elems[i]? = some e → Legal D e := by cases h; assumption
theorem Legal.here {D : List De} {t : Ty} (h : Legal D t) : LegalAt D t := by cases h; assumption

/-- methods may be declared -/
structure MayHave (D : List De) (x : De) : Prop where
  fn : ∀ m ∈ x.ms, m.fn.name.toList ≠ us ∧ m.fn.kind = 8 ∧ Shaped D D.length false m.fn ∧ Legal D m.fn
  unq : Uniq (names (x.ms.map (·.fn)) ++ (if (underT D x.ty).kind = 7 then names (underT D x.ty).elems else []))
  kind : x.ms ≠ [] → x.al = false ∧ (underT D x.ty).kind ≠ 2 ∧ (underT D x.ty).kind ≠ 9 ∧ ¬ isUns (underT D x.ty)
structure ValidD (D : List De) : Prop where
  sh : ShapedD D
  nm : ∀ (i : Nat) e, D[i]? = some e → Ident e.name.toList ∧ e.name.toList ≠ us
  pkg : ∀ (i : Nat) e, D[i]? = some e → e.pkg = 0 ∨ e.pkg = 1
  lg : ∀ (i : Nat) e, D[i]? = some e → Legal D e.ty
  ms : ∀ (i : Nat) e, D[i]? = some e → MayHave D e
structure ValidT (D : List De) (t : Ty) : Prop where
  sh : Shaped D D.length true t
  lg : Legal D t

/-! ### Determined -/
theorem lists_eq {α : Type} : ∀ (l l' : List α), l.length = l'.length → (∀ (i : Nat) a b, l[i]? = some a → l'[i]? = some b → a = b) → l = l'
  | [], [], _, _ => rfl
  | [], _ :: _, h, _ => by simp at h
  | _ :: _, [], h, _ => by simp at h
  | a :: l, b :: l', h, h2 => by
    rw [h2 0 a b rfl rfl, lists_eq l l' (by simpa using h) fun i a b ha hb => h2 (i + 1) a b (by simpa using ha) (by simpa using hb)]
theorem IM.det {D : List De} {t : Ty} {ms : List Mt} (h : IM D t ms) : ∀ {ms' : List Mt}, IM D t ms' → ms = ms' := by
  induction h with
  | no t hk =>
    intro ms' h'
    cases h' with
    | no => rfl
    | yes _ L h9 => exact absurd h9 hk
  | yes t L h9 hL h1 h2 ih =>
    intro ms' h'
    cases h' with
    | no _ hk => exact absurd h9 hk
    | yes _ L' _ hL' h1' h2' =>
      rw [lists_eq L L' (hL.trans hL'.symm) fun i a b ha hb => ?_]
      have hlt : i < (underT D t).elems.length := by rw [← hL]; exact (List.getElem?_eq_some_iff.1 ha).1
      have he := List.getElem?_eq_getElem hlt
      by_cases hc : (i : Int) < (underT D t).count
      · rw [h1 i _ a he ha hc, h1' i _ b he hb hc]
      · exact ih i _ a he ha hc (h2' i _ b he hb hc)
theorem Exp.det {D : List De} {t : Ty} {x : X} (h : Exp D t x) : ∀ {y : X}, Exp D t y → x = y := by
  induction h with
  | leaf t hk =>
    intro y h'
    cases h' with
    | leaf => rfl
    | plain _ es h2 h8 => omega
    | iface _ ms es h9 => omega
  | plain t es h2 h8 hl he ih =>
    intro y h'
    cases h' with
    | leaf _ hk => omega
    | plain _ es' h2' h8' hl' he' =>
      rw [lists_eq es es' (hl.trans hl'.symm) fun i a b ha hb => ?_]
      have hlt : i < (unaliasT D t).elems.length := by rw [← hl]; exact (List.getElem?_eq_some_iff.1 ha).1
      have hel := List.getElem?_eq_getElem hlt
      exact ih i _ a hel ha (he' i _ b hel hb)
    | iface _ ms es h9 => omega
  | iface t ms es h9 him hl he ih =>
    intro y h'
    cases h' with
    | leaf _ hk => omega
    | plain _ es' h2' h8' => omega
    | iface _ ms' es' _ him' hl' he' =>
      have hms := him.det him'
      subst hms
      rw [lists_eq es es' (hl.trans hl'.symm) fun i a b ha hb => ?_]
      have hlt : i < ms.length := by rw [← hl]; exact (List.getElem?_eq_some_iff.1 ha).1
      have hel := List.getElem?_eq_getElem hlt
      exact ih i _ a hel ha (he' i _ b hel hb)

theorem cmp_key {D : List De} (t b : Ty) (hl : 0 ≤ b.kind) (hh : b.kind ≤ 9) (hb : underT D t = errN (norm b)) (hel : ∀ (j : Nat) e, b.elems[j]? = some e → b.kind = 4 ∨ b.kind = 7 → ∃ c, Cmp D e c) : ∃ c, Cmp D t c := by
  have fin : ∀ u, underT D t = u → (u.kind = 4 ∨ u.kind = 7 → u = b) → 0 ≤ u.kind → u.kind ≤ 9 → ∃ c, Cmp D t c := by
    intro u hu hub h0 h9
    subst hu
    by_cases h1 : (underT D t).kind = 3 ∨ (underT D t).kind = 5 ∨ (underT D t).kind = 8
    · exact ⟨_, .no t h1⟩
    · by_cases h2 : (underT D t).kind = 4 ∨ (underT D t).kind = 7
      · have := hub h2
        obtain ⟨bs, h3, h4⟩ := choose_list (fun (_ : Nat) e c => Cmp D e c) (underT D t).elems fun j e he => hel j e (by rw [← this]; exact he) (by rw [← this]; exact h2)
        exact ⟨_, .all t bs h2 h3 h4⟩
      · exact ⟨_, .yes t (by omega)⟩
  rcases norm_cases b with ⟨h1, h2⟩ | ⟨h1, h2, _⟩ | ⟨_, _, h⟩
  · rw [h2, errN_kind_ne h1] at hb
    exact fin b hb (fun _ => rfl) hl hh
  · refine fin _ hb (fun h => ?_) ?_ ?_ <;> (unfold errN at *; split <;> rename_i hc <;> simp_all [errT, Ty.kind])
  · rw [h] at hb
    exact fin anyT hb (fun h => by simp [anyT, Ty.kind] at h) (by decide) (by decide)
/-- comparable or not: one of the two -/
theorem exists_cmp {D : List De} (hD : ShapedD D) : ∀ (i : Nat), i ≤ D.length → ∀ (v : Bool) (t : Ty), Shaped D i v t → v = true → ∃ b, Cmp D t b := by
  intro i
  induction i using Nat.strongRecOn with
  | _ i ih =>
  intro hi v t hs
  induction hs with
  | mk v t hsh hel ihel =>
  intro hv
  rcases under_cases hD hi (.mk v t hsh hel) with ⟨h1, h2, h3⟩ | ⟨j, e, h1, h2, h3, h4, h5, h6⟩
  · exact cmp_key t t hsh.lo hsh.hi h3 fun j e he hk => ihel j e he (by rcases hk with hk | hk <;> simp [holdsT, hk, hv])
  · have hs' := hD j e h4
    exact cmp_key t e.ty hs'.shape.lo hs'.shape.hi h6 fun k e' he' hk => ih j (h3 hv) (by omega) _ e' (hs'.el k e' he') (by rcases hk with hk | hk <;> simp [holdsT, hk])
/-- at any place -/
theorem good_cmp {D : List De} (hD : OkD D) {t : Ty} (h : Good D t) : ∃ b, Cmp D t b := by
  obtain ⟨i, v, hi, hs⟩ := h.sh
  clear h
  induction hs with
  | mk v t hsh hel ihel =>
  rcases under_cases hD.sh hi (.mk v t hsh hel) with ⟨h1, h2, h3⟩ | ⟨j, e, h1, h2, h3, h4, h5, h6⟩
  · exact cmp_key t t hsh.lo hsh.hi h3 fun j e he _ => ihel j e he
  · have hs' := hD.sh j e h4
    exact cmp_key t e.ty hs'.shape.lo hs'.shape.hi h6 fun k e' he' hk => exists_cmp hD.sh j (by omega) _ e' (hs'.el k e' he') (by rcases hk with hk | hk <;> simp [holdsT, hk])

theorem IM_good {D : List De} (hD : OkD D) {t : Ty} {ms : List Mt} (h : IM D t ms) : Good D t → ∀ m ∈ ms, Good D m.fn := by
  induction h with
  | no => intro _ m hm; cases hm
  | yes t L hk hL h1 h2 ih =>
    intro hG
    have hGu := hG.under hD
    refine mem_merge _ _ _ _ (by simp) fun l hl m hm => ?_
    obtain ⟨j, hj⟩ := List.getElem?_of_mem hl
    have hlt : j < (underT D t).elems.length := by rw [← hL]; exact (List.getElem?_eq_some_iff.1 hj).1
    have he := List.getElem?_eq_getElem hlt
    by_cases hc : (j : Int) < (underT D t).count
    · rw [h1 j _ l he hj hc] at hm
      simp at hm
      subst hm
      exact hGu.el he
    · exact ih j _ l he hj hc (hGu.el he) m hm
/-- the two finds -/
theorem find_rel : ∀ (ms : List Mt) (es : List X) (s : List UInt8) (p : Int), es.length = ms.length →
    (findM ms s p = none ∧ findX (anM ms) es s p = none) ∨ ∃ (j : Nat) (n : Mt) (y : X), findM ms s p = some n ∧ ms[j]? = some n ∧ es[j]? = some y ∧ findX (anM ms) es s p = some y
  | [], es, s, p, _ => .inl ⟨rfl, by simp [anM, findX]⟩
  | m :: ms, [], s, p, h => by simp at h
  | m :: ms, y :: es, s, p, h => by
    cases hs : sameNm m.name.toList m.pkg s p with
    | true => exact .inr ⟨0, m, y, by simp [findM, hs], rfl, rfl, by simp [anM, findX, hs]⟩
    | false =>
      rcases find_rel ms es s p (by simpa using h) with ⟨h1, h2⟩ | ⟨j, n, y', h1, h2, h3, h4⟩
      · exact .inl ⟨by simpa [findM, hs] using h1, by simpa [anM, findX, hs] using h2⟩
      · exact .inr ⟨j + 1, n, y', by simpa [findM, hs] using h1, by simpa using h2, by simpa using h3, by simpa [anM, findX, hs] using h4⟩
end Go.Proofs.YtelmnkfdpnkpoaaGreatDoor
namespace Go.Proofs.YtelmnkfdpnkpoaaGreatDoor
open Go Go.Kd
set_option maxRecDepth 100000

theorem E0_list : (⟨#[]⟩ : ByteArray).toList = [] := by rw [Lib.toList_data]

theorem c_isExported (nm : ByteArray) (w : World) :
    Calls Tryz.prog 127 #[.string nm] w (Ret fun r w' => r = .bool (expo nm.toList) ∧ w = w') := by
  refine W.enter (args := [.string nm]) Tryz.func127 rfl Tryz.ntmps127 rfl rfl ?_
  refine zst ?_
  cases hl : nm.toList with
  | nil =>
    rw [E0_list, show ([] == ([] : List UInt8)) = true from rfl]
    refine zst ?_
    exact fin1 (.inl rfl) rfl rfl ⟨rfl, rfl⟩
  | cons c l =>
    rw [E0_list, show (c :: l == []) = false from rfl]
    refine zst ?_
    refine WU.yld rfl rfl rfl (yld_index_str (i := 0) rfl rfl (by rw [hl]; rfl)) ?_
    refine zst ?_
    cases h1 : decide ((c.toNat : Int) ≥ 65)
    · refine zst ?_
      exact fin1 (.inl rfl) rfl rfl ⟨by simp at h1; simp [expo]; omega, rfl⟩
    · refine zst ?_
      refine WU.yld rfl rfl rfl (yld_index_str (i := 0) rfl rfl (by rw [hl]; rfl)) ?_
      refine zst ?_
      refine fin1 (.inl rfl) rfl rfl ⟨congrArg Value.bool ?_, rfl⟩
      have h1' : 65 ≤ c.toNat := by simp at h1; omega
      by_cases h2 : c.toNat ≤ 90
      · simp [expo, h1', h2]; omega
      · simp [expo, h2]; omega

theorem c_sameName (s s' : ByteArray) (p p' : Int) (w : World) :
    Calls Tryz.prog 80 #[.string s, .int .i64 p, .string s', .int .i64 p'] w (Ret fun r w' => r = .bool (sameNm s.toList p s'.toList p') ∧ w = w') := by
  refine W.enter (args := [.string s, .int .i64 p, .string s', .int .i64 p']) Tryz.func80 rfl Tryz.ntmps80 rfl rfl ?_
  refine zst ?_
  unfold sameNm
  cases h1 : (s.toList == s'.toList)
  · refine zst ?_
    exact fin1 (.inl rfl) rfl rfl ⟨rfl, rfl⟩
  refine zst ?_
  cases h2 : (p == p')
  · refine zst ?_
    refine WU.stp rfl rfl rfl (stp_call rfl (c_isExported s w)) ?_
    rintro _ _ ⟨rfl, rfl⟩
    refine zst ?_
    exact fin1 (.inl rfl) rfl rfl ⟨rfl, rfl⟩
  · refine zst ?_
    exact fin1 (.inl rfl) rfl rfl ⟨rfl, rfl⟩

theorem c_anyType (w : World) : Calls Tryz.prog 79 #[] w (Ret fun r w' => r = tyv 9 0 0 false (.slice none 0 0) eB eB false ∧ Ext w w') := by
  refine W.enter (args := []) Tryz.func79 rfl Tryz.ntmps79 rfl rfl ?_
  refine zst ?_
  refine WU.stp rfl rfl rfl stp_alloc ?_
  rintro _ w1 ⟨b1, rfl, n1⟩
  refine zst ?_
  refine WU.stp0 rfl rfl (stp_store_whole rfl rfl rfl rfl) ?_
  rintro _ w2 u2
  refine zst ?_
  exact finc (.inl rfl) rfl rfl ⟨rfl, (u2.ofNew n1).ext⟩
theorem tyv_any (w : World) (p : Nat → Prop) : TyV w p (tyl 9 0 0 false (.slice none 0 0) eB eB false) anyT :=
  .mk 9 0 0 false [] eB eB false none 0 (fun _ => []) (fun i e h => by simp at h) (fun i h => by simp at h) (Nat.le_refl _)

theorem c_errorInterface (w : World) : Calls Tryz.prog 52 #[] w (Ret fun r w' => ∃ a cp, r = .agg (tyc errT a cp).toArray ∧ TysV w' (fun b => w.heap.size ≤ b ∧ b < w'.heap.size) a cp errT.elems ∧ Ext w w') := by
  refine W.enter (args := []) Tryz.func52 rfl Tryz.ntmps52 rfl rfl ?_
  refine zst ?_
  refine WU.stp rfl rfl rfl stp_alloc ?_
  rintro _ w1 ⟨b1, rfl, n1⟩
  refine zst ?_
  refine WU.stp rfl rfl rfl (stp_buildSlice rfl rfl rfl rfl rfl) ?_
  rintro _ w2 ⟨b2, rfl, n2⟩
  refine zst ?_
  refine WU.stp rfl rfl rfl (stp_buildSlice rfl rfl rfl rfl rfl) ?_
  rintro _ w3 ⟨b3, rfl, n3⟩
  refine zst ?_
  refine WU.stp0 rfl rfl (stp_store_whole rfl rfl rfl rfl) ?_
  rintro _ w4 u4
  refine zst ?_
  have e2 := n2.num
  have e3 := n3.num
  have e1 := n1.num
  have h1 := n1.size
  have h2 := n2.size
  have k2 : Has w4 b2 _ := u4.keep (n2.has.ext' n3.ext) (by omega)
  have k3 : Has w4 b3 _ := u4.keep n3.has (by omega)
  have lt2 := k2.lt
  have lt3 := k3.lt
  have vs : TyV w4 (fun b => w.heap.size ≤ b ∧ b < w4.heap.size) (tyl 0 16 0 false (.slice none 0 0) eB eB false) vstr :=
    .mk 0 16 0 false [] eB eB false none 0 (fun _ => []) (fun i e h => by simp at h) (fun i h => by simp at h) (Nat.le_refl _)
  have vf : TyV w4 (fun b => w.heap.size ≤ b ∧ b < w4.heap.size) (tyl 8 0 0 false (.slice (some ⟨b2, 0, none⟩) 1 1) ⟨#[69, 114, 114, 111, 114]⟩ eB false) errFn :=
    .mk 8 0 0 false [vstr] ⟨#[69, 114, 114, 111, 114]⟩ eB false _ 1 (fun _ => tyl 0 16 0 false (.slice none 0 0) eB eB false) (fun i e h => by
      match i with
      | 0 => simp at h; subst h; exact vs
      | i + 1 => simp at h) (fun i h => by
      match i with
      | 0 => exact ⟨b2, 0, rfl, by omega, Cells.has k2⟩
      | i + 1 => simp at h) (Nat.le_refl _)
  refine finc (.inl rfl) rfl rfl ⟨some ⟨b3, 0, none⟩, 1, rfl, ⟨Nat.le_refl _, fun _ => tyl 8 0 0 false (.slice (some ⟨b2, 0, none⟩) 1 1) ⟨#[69, 114, 114, 111, 114]⟩ eB false, fun i h => ?_, fun i e h => ?_⟩, u4.ext (n1.ext.trans (n2.ext.trans n3.ext)) (by omega)⟩
  · match i with
    | 0 => exact ⟨b3, 0, rfl, by omega, Cells.has k3⟩
    | i + 1 => simp [errT, Ty.elems] at h
  · match i with
    | 0 => simp [errT, Ty.elems] at h; subst h; exact vf
    | i + 1 => simp [errT, Ty.elems] at h
end Go.Proofs.YtelmnkfdpnkpoaaGreatDoor
namespace Go.Proofs.YtelmnkfdpnkpoaaGreatDoor
open Go Go.Kd
set_option maxRecDepth 100000

theorem ty_eta (t : Ty) : Ty.mk t.kind t.n t.count t.vr t.elems t.name t.tag t.emb = t := by cases t; rfl

theorem c_Unalias {D : List De} (hD : OkD D) {t : Ty} (hG : Good D t) (a : Option Addr) (cp : Nat) (a1 : Option Addr) (c1 : Nat) (w : World) {p : Nat → Prop} (hd : DsV w p (.slice a D.length cp) D) (ht : TysV w p a1 c1 t.elems) :
    Calls Tryz.prog 47 #[.slice a D.length cp, .agg (tyc t a1 c1).toArray] w
      (Ret fun r w' => ∃ a2 c2, r = .agg (tyc (unaliasT D t) a2 c2).toArray ∧ TysV w p a2 c2 (unaliasT D t).elems ∧ Ext w w') := by
  refine W.enter (args := [.slice a D.length cp, .agg (tyc t a1 c1).toArray]) Tryz.func47 rfl Tryz.ntmps47 rfl rfl ?_
  refine zst ?_
  refine WU.stp rfl rfl rfl (by first | exact stp_box rfl rfl | exact stp_box1 rfl rfl) ?_
  rintro _ w1 ⟨b1, rfl, n1⟩
  refine WU.stp rfl rfl rfl stp_alloc ?_
  rintro _ w2 ⟨b2, rfl, n2⟩
  refine zst ?_
  have e1 := n1.num
  have e2 := n2.num
  have s1 := n1.size
  have h1 : Has w2 b1 _ := n1.has.ext' n2.ext
  refine W.loop (σ := Nat) (fun k => [(7, .int .i64 k), (6, .int .i64 D.length), (4, .pointer (some ⟨b2, 0, none⟩)), (3, .pointer (some ⟨b1, 0, none⟩)), (0, .slice a D.length cp)])
    (fun k D' w' => D' = [] ∧ k ≤ D.length ∧ Ext w w' ∧ Has w' b2 (.cells (tyl 0 0 0 false (.slice none 0 0) eB eB false).toArray 26) ∧
      ∃ a2 c2, Has w' b1 (.cells (tyc (rep (unal1 D) k t) a2 c2).toArray 26) ∧ TysV w p a2 c2 (rep (unal1 D) k t).elems)
    (fun k => D.length - k) 0 ⟨rfl, Nat.zero_le _, n1.ext.trans n2.ext, n2.has, a1, c1, h1, ht⟩ (by exact sub_of ⟨rfl, rfl, rfl, rfl, rfl, trivial⟩) ?_
  have l2 : w.heap.size ≤ b2 ∧ b1 < b2 := by omega
  clear h1 n1 n2 s1
  rintro k D' wr ⟨rfl, hk, xr, h2, a2, c2, h1, hu⟩
  have hGk := hG.rep_unal hD k
  have hnx : rep (unal1 D) (k + 1) t = unal1 D (rep (unal1 D) k t) := rfl
  refine zst ?_
  by_cases hlt : k < D.length
  · rw [show decide ((k : Int) < (D.length : Int)) = true by simpa using hlt]
    have hb1 := h1.lt
    generalize rep (unal1 D) k t = u at hGk hnx h1 hu
    refine zst ?_
    cases h3 : (u.kind == 1)
    · have hn : unal1 D u = u := unal1_id (isAl_lit (by simpa using h3))
      refine zst ?_
      refine WU.yld rfl rfl rfl (ya rfl rfl (by have := hD.len; omega)) ?_
      refine zst ?_
      exact ⟨k + 1, by omega, ⟨rfl, by omega, xr, h2, a2, c2, by rw [hnx, hn]; exact h1, by rw [hnx, hn]; exact hu⟩, sub_of ⟨rfl, rfl, rfl, rfl, rfl, trivial⟩⟩
    have hk1 : u.kind = 1 := by simpa using h3
    obtain ⟨e, he⟩ := hGk.decl hk1
    obtain ⟨hn0, hn1⟩ := hGk.named hk1
    obtain ⟨b, o, a3, c3, a4, c4, f, rfl, _, hc, hte, _⟩ := hd.next he
    have hc' : Cells wr b (o + u.n.toNat * 12) (del e a3 c3 a4 c4) := hc.ext xr
    refine zst ?_
    refine WU.yld rfl rfl rfl (yld_load_cellsI rfl hc' rfl) ?_
    refine zst ?_
    have hun : unal1 D u = if e.al then e.ty else u := by unfold unal1 decl; rw [if_pos hk1, he]
    cases h4 : e.al
    · rw [h4] at hun
      refine zst ?_
      refine WU.yld rfl rfl rfl (ya rfl rfl (by have := hD.len; omega)) ?_
      refine zst ?_
      exact ⟨k + 1, by omega, ⟨rfl, by omega, xr, h2, a2, c2, by rw [hnx, hun]; exact h1, by rw [hnx, hun]; exact hu⟩, sub_of ⟨rfl, rfl, rfl, rfl, rfl, trivial⟩⟩
    · rw [h4] at hun
      refine zst ?_
      refine WU.yld rfl rfl rfl (yld_load_cells rfl (Cells.ty_of hc')) ?_
      refine WU.stp0 rfl rfl (stp_store_whole rfl rfl rfl rfl) ?_
      rintro _ w3 u3
      refine zst ?_
      refine WU.yld rfl rfl rfl (ya rfl rfl (by have := hD.len; omega)) ?_
      refine zst ?_
      exact ⟨k + 1, by omega, ⟨rfl, by omega, u3.ext xr (by omega), u3.keep h2 (by omega), a3, c3, by rw [hnx, hun]; exact u3.has, by rw [hnx, hun]; exact hte⟩, sub_of ⟨rfl, rfl, rfl, rfl, rfl, trivial⟩⟩
  · rw [show decide ((k : Int) < (D.length : Int)) = false by simpa using hlt]
    obtain rfl : k = D.length := by omega
    have hfin : unaliasT D t = norm (rep (unal1 D) D.length t) := rfl
    have hb1 := h1.lt
    generalize rep (unal1 D) D.length t = u at hGk hnx h1 hu hfin
    rw [hfin]
    refine zst ?_
    cases h3 : (u.kind == 0)
    · rw [norm_named (by simpa using h3)]
      refine zst ?_
      rw [h3]
      refine zst ?_
      rw [h3]
      refine zst ?_
      refine WU.stp0 rfl rfl (stp_store_whole rfl rfl rfl rfl) ?_
      rintro _ w3 u3
      refine zst ?_
      exact finc (.inl rfl) rfl rfl ⟨a2, c2, rfl, hu, u3.ext xr (by omega)⟩
    have hk0 : u.kind = 0 := by simpa using h3
    refine zst ?_
    unfold norm
    rw [if_pos hk0]
    cases h4 : (u.n == 18)
    · rw [if_neg (by simpa using h4)]
      refine zst ?_
      rw [h3]
      refine zst ?_
      cases h5 : (u.n == 19)
      · rw [if_neg (by simpa using h5)]
        refine zst ?_
        rw [h3]
        refine zst ?_
        cases h6 : (u.n == 21)
        · rw [if_neg (by simpa using h6)]
          refine zst ?_
          refine WU.stp0 rfl rfl (stp_store_whole rfl rfl rfl rfl) ?_
          rintro _ w3 u3
          refine zst ?_
          exact finc (.inl rfl) rfl rfl ⟨a2, c2, rfl, hu, u3.ext xr (by omega)⟩
        · rw [if_pos (by simpa using h6)]
          refine zst ?_
          refine WU.stp rfl rfl rfl (stp_call rfl (c_anyType wr)) ?_
          rintro _ w4 ⟨rfl, x4⟩
          refine WU.stp0 rfl rfl (stp_store_whole rfl rfl rfl rfl) ?_
          rintro _ w3 u3
          refine zst ?_
          exact finc (.inl rfl) rfl rfl ⟨none, 0, rfl, TysV.nil, u3.ext (xr.trans x4) (by omega)⟩
      · rw [if_pos (by simpa using h5)]
        refine zst ?_
        refine WU.stp0 rfl rfl (stp_store_cell rfl rfl rfl rfl) ?_
        rintro _ w3 u3
        have h2' := u3.keep h2 (by omega)
        refine zst ?_
        refine WU.stp0 rfl rfl (stp_store_whole rfl rfl rfl rfl) ?_
        rintro _ w4 u4
        refine zst ?_
        have x3 : Ext w w3 := u3.ext xr (by omega)
        exact finc (.inl rfl) rfl rfl ⟨a2, c2, by cases u; rfl, by cases u; exact hu, u4.ext x3 (by omega)⟩
    · rw [if_pos (by simpa using h4)]
      refine zst ?_
      refine WU.stp0 rfl rfl (stp_store_cell rfl rfl rfl rfl) ?_
      rintro _ w3 u3
      have h2' := u3.keep h2 (by omega)
      refine zst ?_
      refine WU.stp0 rfl rfl (stp_store_whole rfl rfl rfl rfl) ?_
      rintro _ w4 u4
      refine zst ?_
      have x3 : Ext w w3 := u3.ext xr (by omega)
      exact finc (.inl rfl) rfl rfl ⟨a2, c2, by cases u; rfl, by cases u; exact hu, u4.ext x3 (by omega)⟩

theorem c_Underlying {D : List De} (hD : OkD D) {t : Ty} (hG : Good D t) (a : Option Addr) (cp : Nat) (a1 : Option Addr) (c1 : Nat) (w : World) {p : Nat → Prop} (hp : ∀ b, p b → b < w.heap.size) (hd : DsV w p (.slice a D.length cp) D) (ht : TysV w p a1 c1 t.elems) :
    Calls Tryz.prog 23 #[.slice a D.length cp, .agg (tyc t a1 c1).toArray] w
      (Ret fun r w' => ∃ a2 c2, r = .agg (tyc (underT D t) a2 c2).toArray ∧ TysV w' (btw w w' p) a2 c2 (underT D t).elems ∧ Ext w w') := by
  refine W.enter (args := [.slice a D.length cp, .agg (tyc t a1 c1).toArray]) Tryz.func23 rfl Tryz.ntmps23 rfl rfl ?_
  refine zst ?_
  refine WU.stp rfl rfl rfl (by first | exact stp_box rfl rfl | exact stp_box1 rfl rfl) ?_
  rintro _ w1 ⟨b1, rfl, n1⟩
  refine WU.stp rfl rfl rfl stp_alloc ?_
  rintro _ w2 ⟨b2, rfl, n2⟩
  refine zst ?_
  have e1 := n1.num
  have e2 := n2.num
  have s1 := n1.size
  have l2 : w.heap.size ≤ b2 ∧ b1 < b2 := by omega
  have x2 : Ext w w2 := n1.ext.trans n2.ext
  have h1 : Has w2 b1 _ := n1.has.ext' n2.ext
  have np1 : ¬ p b1 := fun h => by have := hp _ h; omega
  refine WU.stp rfl rfl rfl (stp_call rfl (c_Unalias hD hG a cp a1 c1 w2 (hd.ext x2) (ht.ext x2))) ?_
  rintro _ w3 ⟨a2, c2, rfl, ht3, x3⟩
  refine WU.stp0 rfl rfl (stp_store_whole rfl rfl rfl rfl) ?_
  rintro _ w4 u4
  refine zst ?_
  have x4 : Ext w w4 := u4.ext (x2.trans x3) (by omega)
  have h4 : Has w4 b2 _ := u4.keep (n2.has.ext' x3) (by omega)
  refine W.loop (σ := Nat) (fun k => [(10, .int .i64 k), (9, .int .i64 D.length), (4, .pointer (some ⟨b2, 0, none⟩)), (3, .pointer (some ⟨b1, 0, none⟩)), (0, .slice a D.length cp)])
    (fun k D' w' => D' = [] ∧ k ≤ D.length ∧ Ext w w' ∧ Has w' b2 (.cells (tyl 0 0 0 false (.slice none 0 0) eB eB false).toArray 26) ∧
      ∃ a2 c2, Has w' b1 (.cells (tyc (rep (und1 D) k (unaliasT D t)) a2 c2).toArray 26) ∧ TysV w' p a2 c2 (rep (und1 D) k (unaliasT D t)).elems)
    (fun k => D.length - k) 0 ⟨rfl, Nat.zero_le _, x4, h4, a2, c2, u4.has, (ht3.ext x3).upd u4 np1⟩ (by exact sub_of ⟨rfl, rfl, rfl, rfl, rfl, trivial⟩) ?_
  clear h1 n1 n2 s1 h4 x4 u4 x3 ht3 x2
  rintro k D' wr ⟨rfl, hk, xr, h2, a2, c2, h1, hu⟩
  have hGk := (hG.unalias hD).rep_und hD k
  have hnx : rep (und1 D) (k + 1) (unaliasT D t) = und1 D (rep (und1 D) k (unaliasT D t)) := rfl
  refine zst ?_
  by_cases hlt : k < D.length
  · rw [show decide ((k : Int) < (D.length : Int)) = true by simpa using hlt]
    have hb1 := h1.lt
    generalize rep (und1 D) k (unaliasT D t) = u at hGk hnx h1 hu
    refine zst ?_
    cases h3 : (u.kind == 1)
    · have hn : und1 D u = u := und1_lit (by simpa using h3)
      refine zst ?_
      refine WU.yld rfl rfl rfl (ya rfl rfl (by have := hD.len; omega)) ?_
      refine zst ?_
      exact ⟨k + 1, by omega, ⟨rfl, by omega, xr, h2, a2, c2, by rw [hnx, hn]; exact h1, by rw [hnx, hn]; exact hu⟩, sub_of ⟨rfl, rfl, rfl, rfl, rfl, trivial⟩⟩
    have hk1 : u.kind = 1 := by simpa using h3
    obtain ⟨e, he⟩ := hGk.decl hk1
    obtain ⟨hn0, hn1⟩ := hGk.named hk1
    obtain ⟨b, o, a3, c3, a4, c4, f, rfl, _, hc, hte, _⟩ := hd.next he
    have hc' : Cells wr b (o + u.n.toNat * 12) (del e a3 c3 a4 c4) := hc.ext xr
    refine zst ?_
    refine WU.yld rfl rfl rfl (yld_load_cells rfl (Cells.ty_of hc')) ?_
    refine WU.stp rfl rfl rfl (stp_call rfl (c_Unalias hD (Good.of_D hD he) _ cp a3 c3 wr (hd.ext xr) (hte.ext xr))) ?_
    rintro _ w3 ⟨a5, c5, rfl, ht3, x3⟩
    refine WU.stp0 rfl rfl (stp_store_whole rfl rfl rfl rfl) ?_
    rintro _ w4 u4
    refine zst ?_
    have hun : und1 D u = unaliasT D e.ty := und1_nm hk1 he
    refine WU.yld rfl rfl rfl (ya rfl rfl (by have := hD.len; omega)) ?_
    refine zst ?_
    exact ⟨k + 1, by omega, ⟨rfl, by omega, u4.ext (xr.trans x3) (by omega), u4.keep (h2.ext' x3) (by omega), a5, c5, by rw [hnx, hun]; exact u4.has, by rw [hnx, hun]; exact (ht3.ext x3).upd u4 np1⟩, sub_of ⟨rfl, rfl, rfl, rfl, rfl, trivial⟩⟩
  · rw [show decide ((k : Int) < (D.length : Int)) = false by simpa using hlt]
    obtain rfl : k = D.length := by omega
    have hfin : underT D t = errN (rep (und1 D) D.length (unaliasT D t)) := rfl
    have hb1 := h1.lt
    generalize rep (und1 D) D.length (unaliasT D t) = u at hGk hnx h1 hu hfin
    rw [hfin]
    have hs := xr.size
    refine zst ?_
    unfold errN
    cases h3 : (u.kind == 0)
    · rw [if_neg (by simp at h3; omega)]
      refine zst ?_
      refine WU.stp0 rfl rfl (stp_store_whole rfl rfl rfl rfl) ?_
      rintro _ w3 u3
      refine zst ?_
      exact finc (.inl rfl) rfl rfl ⟨a2, c2, rfl, (hu.upd u3 (fun h => by have := hp _ h; omega)).mono (fun b hb => .inl hb), u3.ext xr (by omega)⟩
    refine zst ?_
    cases h4 : (u.n == 20)
    · rw [if_neg (by simp at h4; omega)]
      refine zst ?_
      refine WU.stp0 rfl rfl (stp_store_whole rfl rfl rfl rfl) ?_
      rintro _ w3 u3
      refine zst ?_
      exact finc (.inl rfl) rfl rfl ⟨a2, c2, rfl, (hu.upd u3 (fun h => by have := hp _ h; omega)).mono (fun b hb => .inl hb), u3.ext xr (by omega)⟩
    · rw [if_pos (by simp at h3 h4; omega)]
      have hb2 := h2.lt
      refine zst ?_
      refine WU.stp rfl rfl rfl (stp_call rfl (c_errorInterface wr)) ?_
      rintro _ w5 ⟨a5, c5, rfl, ht5, x5⟩
      have h2' : Has w5 b2 _ := h2.ext' x5
      refine WU.stp0 rfl rfl (stp_store_whole rfl rfl rfl rfl) ?_
      rintro _ w3 u3
      refine zst ?_
      have hs3 := u3.size
      refine finc (.inl rfl) rfl rfl ⟨a5, c5, rfl, (ht5.upd u3 (fun h => by omega)).mono (fun b hb => .inr ⟨by omega, by omega⟩), u3.ext (xr.trans x5) (by omega)⟩

/-- a field of a struct in hand, of one cell -/
theorem yld_field1 {P : Program} {e : Env} {w : World} {d : Option Tmp} {ty t : TypeId} {pos : String} {aft : Array Edge} {g : Option (Nat × Bool)} {x : Operand} {f off : Nat} {fs : Array Field} {fd : Field} {l : List Value} {v : Value}
    (hu : P.underlying t = some (.struct fs)) (hf : fs[f]? = some fd) (ho : fd.offset = off) (ft : Nat) [hs : Scl P ft] (hft : fd.type = ft) (hx : ev e x = some (.agg l.toArray)) (hv : getO l off = some v) : Yld P e ⟨d, .field t x f, ty, pos, aft, g⟩ v w := ⟨fun ρ hρ w' _ => by
  subst hft
  obtain ⟨D, j, h2, h3, h4, h5⟩ := hs.at_
  have hag : (isAgg fd.type).run P w' = .ok false w' := by
    unfold isAgg; rw [Sem.run_bind, run_underlying h2]; cases D <;> first | rfl | (exact h3.elim)
  have hv' : l[off]? = some v := by rw [← getO_eq]; exact hv
  have hp : (part fd.type l.toArray off).run P w' = .ok v w' := by
    unfold part
    rw [Sem.run_bind, hag]
    simp [hv']
  simp [execOp, hρ x _ hx, Instr.field, run_underlying hu, hf, ho, hp, asAgg]⟩

theorem c_IsInterface {D : List De} (hD : OkD D) {t : Ty} (hG : Good D t) (a : Option Addr) (cp : Nat) (a1 : Option Addr) (c1 : Nat) (w : World) {p : Nat → Prop} (hp : ∀ b, p b → b < w.heap.size) (hd : DsV w p (.slice a D.length cp) D) (ht : TysV w p a1 c1 t.elems) :
    Calls Tryz.prog 18 #[.slice a D.length cp, .agg (tyc t a1 c1).toArray] w (Ret fun r w' => r = .bool (isIfaceT D t) ∧ Ext w w') := by
  refine W.enter (args := [.slice a D.length cp, .agg (tyc t a1 c1).toArray]) Tryz.func18 rfl Tryz.ntmps18 rfl rfl ?_
  refine zst ?_
  refine WU.stp rfl rfl rfl (by first | exact stp_box rfl rfl | exact stp_box1 rfl rfl) ?_
  rintro _ w1 ⟨b1, rfl, n1⟩
  refine zst ?_
  refine WU.stp rfl rfl rfl (stp_call rfl (c_Underlying hD hG a cp a1 c1 w1 (fun b hb => by have := hp b hb; have := n1.size; omega) (hd.ext n1.ext) (ht.ext n1.ext))) ?_
  rintro _ w3 ⟨a2, c2, rfl, ht3, x3⟩
  refine WU.yld rfl rfl rfl (yld_field1 Tryz.underlying26 rfl rfl 23 rfl rfl rfl) ?_
  refine zst ?_
  exact fin1 (.inl rfl) rfl rfl ⟨rfl, n1.ext.trans x3⟩

theorem c_isUnsafePointer (u : Ty) (a1 : Option Addr) (c1 : Nat) (w : World) :
    Calls Tryz.prog 63 #[.agg (tyc u a1 c1).toArray] w (Ret fun r w' => r = .bool (u.kind == 0 && u.n == 17) ∧ Ext w w') := by
  refine W.enter (args := [.agg (tyc u a1 c1).toArray]) Tryz.func63 rfl Tryz.ntmps63 rfl rfl ?_
  refine zst ?_
  refine WU.stp rfl rfl rfl (by first | exact stp_box rfl rfl | exact stp_box1 rfl rfl) ?_
  rintro _ w1 ⟨b1, rfl, n1⟩
  refine zst ?_
  cases h3 : (u.kind == 0) <;> (refine zst ?_; exact fin1 (.inl rfl) rfl rfl ⟨rfl, n1.ext⟩)

theorem c_elems (k : Int) (w : World) : Calls Tryz.prog 55 #[.int .i64 k] w (Ret fun r w' => r = .int .i64 (elemsN k) ∧ w = w') := by
  refine W.enter (args := [.int .i64 k]) Tryz.func55 rfl Tryz.ntmps55 rfl rfl ?_
  refine zst ?_
  unfold elemsN
  cases h0 : (k == 0)
  · refine zst ?_
    cases h1 : (k == 1)
    · refine zst ?_
      cases h2 : (k == 5)
      · refine zst ?_
        cases h3 : (k == 7)
        · refine zst ?_
          cases h4 : (k == 8)
          · refine zst ?_
            cases h5 : (k == 9)
            · refine zst ?_
              simp only [beq_eq_false_iff_ne] at *
              rw [if_neg (by omega), if_neg (by omega), if_neg (by omega)]
              exact fin1 (.inl rfl) rfl rfl ⟨rfl, rfl⟩
            · refine zst ?_
              simp only [beq_eq_false_iff_ne, beq_iff_eq] at *
              rw [if_neg (by omega), if_neg (by omega), if_pos (by omega)]
              exact fin1 (.inl rfl) rfl rfl ⟨rfl, rfl⟩
          · refine zst ?_
            simp only [beq_eq_false_iff_ne, beq_iff_eq] at *
            rw [if_neg (by omega), if_neg (by omega), if_pos (by omega)]
            exact fin1 (.inl rfl) rfl rfl ⟨rfl, rfl⟩
        · refine zst ?_
          simp only [beq_eq_false_iff_ne, beq_iff_eq] at *
          rw [if_neg (by omega), if_neg (by omega), if_pos (by omega)]
          exact fin1 (.inl rfl) rfl rfl ⟨rfl, rfl⟩
      · refine zst ?_
        simp only [beq_eq_false_iff_ne, beq_iff_eq] at *
        rw [if_neg (by omega), if_pos (by omega)]
        exact fin1 (.inl rfl) rfl rfl ⟨rfl, rfl⟩
    · refine zst ?_
      simp only [beq_eq_false_iff_ne, beq_iff_eq] at *
      rw [if_pos (by omega)]
      exact fin1 (.inl rfl) rfl rfl ⟨rfl, rfl⟩
  · refine zst ?_
    simp only [beq_iff_eq] at *
    rw [if_pos (by omega)]
    exact fin1 (.inl rfl) rfl rfl ⟨rfl, rfl⟩

theorem c_limit (D : List De) (a : Option Addr) (cp : Nat) (k : Int) (w : World) : Calls Tryz.prog 56 #[.slice a D.length cp, .int .i64 k] w (Ret fun r w' => r = .int .i64 (limitN D k) ∧ w = w') := by
  refine W.enter (args := [.slice a D.length cp, .int .i64 k]) Tryz.func56 rfl Tryz.ntmps56 rfl rfl ?_
  refine zst ?_
  unfold limitN
  cases h0 : (k == 0)
  · refine zst ?_
    cases h1 : (k == 1)
    · refine zst ?_
      cases h2 : (k == 4)
      · refine zst ?_
        cases h3 : (k == 6)
        · refine zst ?_
          cases h4 : (k == 7)
          · refine zst ?_
            cases h5 : (k == 9)
            · refine zst ?_
              simp only [beq_eq_false_iff_ne] at *
              rw [if_neg (by omega), if_neg (by omega), if_neg (by omega), if_neg (by omega), if_neg (by omega)]
              exact fin1 (.inl rfl) rfl rfl ⟨rfl, rfl⟩
            · refine zst ?_
              simp only [beq_eq_false_iff_ne, beq_iff_eq] at *
              rw [if_neg (by omega), if_neg (by omega), if_neg (by omega), if_neg (by omega), if_pos (by omega)]
              exact fin1 (.inl rfl) rfl rfl ⟨rfl, rfl⟩
          · refine zst ?_
            simp only [beq_eq_false_iff_ne, beq_iff_eq] at *
            rw [if_neg (by omega), if_neg (by omega), if_neg (by omega), if_neg (by omega), if_pos (by omega)]
            exact fin1 (.inl rfl) rfl rfl ⟨rfl, rfl⟩
        · refine zst ?_
          simp only [beq_eq_false_iff_ne, beq_iff_eq] at *
          rw [if_neg (by omega), if_neg (by omega), if_neg (by omega), if_pos (by omega)]
          exact fin1 (.inl rfl) rfl rfl ⟨rfl, rfl⟩
      · refine zst ?_
        simp only [beq_eq_false_iff_ne, beq_iff_eq] at *
        rw [if_neg (by omega), if_neg (by omega), if_pos (by omega)]
        exact fin1 (.inl rfl) rfl rfl ⟨rfl, rfl⟩
    · refine zst ?_
      simp only [beq_eq_false_iff_ne, beq_iff_eq] at *
      rw [if_neg (by omega), if_pos (by omega)]
      exact fin1 (.inl rfl) rfl rfl ⟨rfl, rfl⟩
  · refine zst ?_
    simp only [beq_iff_eq] at *
    rw [if_pos (by omega)]
    exact fin1 (.inl rfl) rfl rfl ⟨rfl, rfl⟩

theorem c_holds (t : Ty) (a1 : Option Addr) (c1 : Nat) (j : Nat) (v : Bool) (w : World) :
    Calls Tryz.prog 57 #[.agg (tyc t a1 c1).toArray, .int .i64 j, .bool v] w (Ret fun r w' => r = .bool (holdsT t j v) ∧ Ext w w') := by
  refine W.enter (args := [.agg (tyc t a1 c1).toArray, .int .i64 j, .bool v]) Tryz.func57 rfl Tryz.ntmps57 rfl rfl ?_
  refine zst ?_
  refine WU.stp rfl rfl rfl (by first | exact stp_box rfl rfl | exact stp_box1 rfl rfl) ?_
  rintro _ w1 ⟨b1, rfl, n1⟩
  refine zst ?_
  unfold holdsT
  cases h0 : (t.kind == 4)
  · refine zst ?_
    cases h1 : (t.kind == 7)
    · refine zst ?_
      cases h2 : (t.kind == 9)
      · refine zst ?_
        simp only [beq_eq_false_iff_ne] at *
        rw [if_neg (by omega), if_neg (by omega)]
        exact fin1 (.inl rfl) rfl rfl ⟨rfl, n1.ext⟩
      · refine zst ?_
        simp only [beq_eq_false_iff_ne, beq_iff_eq] at *
        rw [if_neg (by omega), if_pos (by omega)]
        exact fin1 (.inl rfl) rfl rfl ⟨rfl, n1.ext⟩
    · refine zst ?_
      simp only [beq_eq_false_iff_ne, beq_iff_eq] at *
      rw [if_pos (by omega)]
      exact fin1 (.inl rfl) rfl rfl ⟨rfl, n1.ext⟩
  · refine zst ?_
    simp only [beq_iff_eq] at *
    rw [if_pos (by omega)]
    exact fin1 (.inl rfl) rfl rfl ⟨rfl, n1.ext⟩
end Go.Proofs.YtelmnkfdpnkpoaaGreatDoor
namespace Go.Kd
theorem finct {P : Program} {fn : Func} {R : Value → World → Prop} {x : Exit} {e : Env} {w : World} {t ty b t2 : Nat} {l : List Value} {u : Value} {t' : TypeId} {fz : Nat × Nat} [ha : Agt P ty l.length] (hx : x = .ret ∨ x = .normal) (hr : fn.results = #[.cell t ty, .tmp t2]) (hv : lk e t = some (.pointer (some ⟨b, 0, none⟩))) (hu : lk e t2 = some u)
    [hb : Has w b (.cells l.toArray t' fz)] (h : R (.tuple #[.agg l.toArray, u]) w) : fin P fn (Ret R) x [] e w := by
  obtain ⟨D, i, h1, h2, h3, h4⟩ := ha.at_
  have := run_loadVar_mid (P := P) w b 0 ty l D (fun j v hj => cell_of hb (by simpa using hj)) h1 (by cases D <;> simp_all) (by simp [h3, h4])
  have : RV P e w fn.results.toList [.agg l.toArray, u] := by rw [hr]; exact .cell hv this (.tmp hu .nil)
  rcases hx with rfl | rfl <;> exact ⟨rfl, [.agg l.toArray, u], this, _, rfl, h⟩
theorem Cells.same {w w' : World} {b o : Nat} {cs : List Value} (hs : w'.heap[b]? = w.heap[b]?) (h : Cells w b o cs) : Cells w' b o cs := fun j v hv => by
  have := h j v hv
  unfold World.cell? at this ⊢
  rw [hs]
  exact this
theorem SlC.same {w w' : World} {p : Nat → Prop} (hs : ∀ b, p b → w'.heap[b]? = w.heap[b]?) {sz n : Nat} {a : Option Addr} {f : Nat → List Value} (h : SlC w p sz a n f) : SlC w' p sz a n f := fun i hi => by
  obtain ⟨b, o, h1, h0, h2⟩ := h i hi
  exact ⟨b, o, h1, h0, h2.same (hs b h0)⟩
end Go.Kd
namespace Go.Proofs.YtelmnkfdpnkpoaaGreatDoor
open Go Go.Kd
set_option maxRecDepth 100000

theorem TyV.same {w w' : World} {p : Nat → Prop} (hs : ∀ b, p b → w'.heap[b]? = w.heap[b]?) {cs : List Value} {t : Ty} (h : TyV w p cs t) : TyV w' p cs t := by
  induction h with
  | mk k n c vr es nm tg em a cp f _ h2 hc ih => exact .mk k n c vr es nm tg em a cp f ih (h2.same hs) hc
theorem TysV.same {w w' : World} {p : Nat → Prop} (hs : ∀ b, p b → w'.heap[b]? = w.heap[b]?) {a : Option Addr} {cp : Nat} {l : List Ty} (h : TysV w p a cp l) : TysV w' p a cp l := by
  obtain ⟨h0, f, h1, h2⟩ := h
  exact ⟨h0, f, h1.same hs, fun i e he => (h2 i e he).same hs⟩

/-- a method's cells -/
abbrev mtl (m : Mt) (a : Option Addr) (c : Nat) : List Value :=
  [.string m.name, .int .i64 m.pkg, .int .i64 m.fn.kind, .int .i64 m.fn.n, .int .i64 m.fn.count, .bool m.fn.vr, .slice a m.fn.elems.length c, .string m.fn.name, .string m.fn.tag, .bool m.fn.emb]
def MtV (w : World) (p : Nat → Prop) (cs : List Value) (m : Mt) : Prop := ∃ a c, cs = mtl m a c ∧ TysV w p a c m.fn.elems
theorem MtV.ext {w w' : World} (x : Ext w w') {p : Nat → Prop} {cs : List Value} {m : Mt} (h : MtV w p cs m) : MtV w' p cs m := by
  obtain ⟨a, c, h1, h2⟩ := h; exact ⟨a, c, h1, h2.ext x⟩
theorem MtV.mono {w : World} {p q : Nat → Prop} (hq : ∀ b, p b → q b) {cs : List Value} {m : Mt} (h : MtV w p cs m) : MtV w q cs m := by
  obtain ⟨a, c, h1, h2⟩ := h; exact ⟨a, c, h1, h2.mono hq⟩
theorem MtV.same {w w' : World} {p : Nat → Prop} (hs : ∀ b, p b → w'.heap[b]? = w.heap[b]?) {cs : List Value} {m : Mt} (h : MtV w p cs m) : MtV w' p cs m := by
  obtain ⟨a, c, h1, h2⟩ := h; exact ⟨a, c, h1, h2.same hs⟩
theorem Cells.mt_ty {w : World} {b o : Nat} {m : Mt} {a : Option Addr} {c : Nat} (h : Cells w b o (mtl m a c)) : Cells w b (o + 2) (tyc m.fn a c) :=
  h.part fun j v hv => by rw [← List.getElem?_drop]; exact hv

/-- a slice of methods -/
structure MtsV (w : World) (p : Nat → Prop) (v : Value) (l : List Mt) : Prop where
  el : ∃ a cp f, v = .slice a l.length cp ∧ SlC w p 10 a l.length f ∧ ∀ (i : Nat) m, l[i]? = some m → MtV w p (f i) m
theorem MtsV.ext {w w' : World} (x : Ext w w') {p : Nat → Prop} {v : Value} {l : List Mt} (h : MtsV w p v l) : MtsV w' p v l := by
  obtain ⟨a, cp, f, h1, h2, h3⟩ := h
  exact ⟨a, cp, f, h1, h2.ext x, fun i m hm => (h3 i m hm).ext x⟩
theorem MtsV.mono {w : World} {p q : Nat → Prop} (hq : ∀ b, p b → q b) {v : Value} {l : List Mt} (h : MtsV w p v l) : MtsV w q v l := by
  obtain ⟨a, cp, f, h1, h2, h3⟩ := h
  exact ⟨a, cp, f, h1, h2.mono hq, fun i m hm => (h3 i m hm).mono hq⟩
theorem MtsV.same {w w' : World} {p : Nat → Prop} (hs : ∀ b, p b → w'.heap[b]? = w.heap[b]?) {v : Value} {l : List Mt} (h : MtsV w p v l) : MtsV w' p v l := by
  obtain ⟨a, cp, f, h1, h2, h3⟩ := h
  exact ⟨a, cp, f, h1, h2.same hs, fun i m hm => (h3 i m hm).same hs⟩
theorem MtsV.shape {w : World} {p : Nat → Prop} {v : Value} {l : List Mt} (h : MtsV w p v l) : ∃ a cp, v = .slice a l.length cp := by
  obtain ⟨a, cp, f, h1, _⟩ := h; exact ⟨a, cp, h1⟩
theorem MtsV.next {w : World} {p : Nat → Prop} {a : Option Addr} {n cp : Nat} {l : List Mt} (h : MtsV w p (.slice a n cp) l) {i : Nat} {m : Mt} (hm : l[i]? = some m) : ∃ b o a1 c1, a = some ⟨b, o, none⟩ ∧ p b ∧ Cells w b (o + i * 10) (mtl m a1 c1) ∧ TysV w p a1 c1 m.fn.elems := by
  obtain ⟨a', cp', f, h0, h1, h2⟩ := h
  cases h0
  have hlt : i < l.length := (List.getElem?_eq_some_iff.1 hm).1
  obtain ⟨b, o, h3, h4, h5⟩ := h1 i hlt
  obtain ⟨a1, c1, h6, h7⟩ := h2 i m hm
  rw [h6] at h5
  exact ⟨b, o, a1, c1, h3, h4, h5, h7⟩

abbrev mtz : List Value := [.string eB, .int .i64 0, .int .i64 0, .int .i64 0, .int .i64 0, .bool false, .slice none 0 0, .string eB, .string eB, .bool false]
/-- what find gives -/
def FoundV (w : World) (p : Nat → Prop) (v : Value) (r : Option Mt) : Prop := match r with
  | some m => ∃ a c, v = .tuple #[.agg (mtl m a c).toArray, .bool true] ∧ TysV w p a c m.fn.elems
  | none => v = .tuple #[.agg mtz.toArray, .bool false]

theorem findM_take {l : List Mt} {s : List UInt8} {p : Int} {i : Nat} (h : ∀ (j : Nat) m, j < i → l[j]? = some m → sameNm m.name.toList m.pkg s p = false) : findM l s p = findM (l.drop i) s p := by
  induction i generalizing l with
  | zero => rfl
  | succ i ih =>
    cases l with
    | nil => rfl
    | cons a l =>
      have h0 := h 0 a (by omega) rfl
      unfold findM at *
      rw [List.find?_cons, h0]
      exact ih fun j m hj hm => h (j + 1) m (by omega) (by simpa using hm)

theorem c_find {l : List Mt} {v : Value} {q : Nat → Prop} (s : ByteArray) (pk : Int) (w : World) (hl : MtsV w q v l) (hln : l.length ≤ 1073741824) :
    Calls Tryz.prog 81 #[v, .string s, .int .i64 pk] w (Ret fun r w' => FoundV w' q r (findM l s.toList pk) ∧ Ext w w') := by
  obtain ⟨a, cp, rfl⟩ := hl.shape
  refine W.enter (args := [.slice a l.length cp, .string s, .int .i64 pk]) Tryz.func81 rfl Tryz.ntmps81 rfl rfl ?_
  refine zst ?_
  refine WU.stp rfl rfl rfl stp_alloc ?_
  rintro _ w1 ⟨b1, rfl, n1⟩
  refine zst ?_
  have e1 := n1.num
  refine W.loop (σ := Nat) (fun k => [(12, .int .i64 k), (11, .int .i64 l.length), (10, .slice a l.length cp), (7, .bool false), (6, .pointer (some ⟨b1, 0, none⟩)), (2, .int .i64 pk), (1, .string s)])
    (fun k D' w' => D' = [] ∧ k ≤ l.length ∧ Ext w w' ∧ Has w' b1 (.cells mtz.toArray 113) ∧ ∀ (j : Nat) m, j < k → l[j]? = some m → sameNm m.name.toList m.pkg s.toList pk = false)
    (fun k => l.length - k) 0 ⟨rfl, Nat.zero_le _, n1.ext, n1.has, fun j m h => by omega⟩ (by exact sub_of ⟨rfl, rfl, rfl, rfl, rfl, rfl, rfl, trivial⟩) ?_
  clear n1
  rintro k D' wr ⟨rfl, hk, xr, hb, hall⟩
  have hb1 := hb.lt
  have hsz := xr.size
  refine zst ?_
  by_cases hlt : k < l.length
  · rw [show decide ((k : Int) < (l.length : Int)) = true by simpa using hlt]
    have hm := List.getElem?_eq_getElem hlt
    generalize l[k] = m at hm
    obtain ⟨b, o, a1, c1, rfl, hqb, hc, hte⟩ := hl.next hm
    have hc' : Cells wr b (o + k * 10) (mtl m a1 c1) := hc.ext xr
    refine zst ?_
    refine WU.yld rfl rfl rfl (yld_load_cells rfl hc') ?_
    refine WU.stp rfl rfl rfl stp_alloc ?_
    rintro _ w3 ⟨b3, rfl, n3⟩
    refine WU.stp0 rfl rfl (stp_store_whole rfl rfl rfl rfl) ?_
    rintro _ w4 u4
    have e3 := n3.num
    have x4 : Ext wr w4 := (u4.ofNew n3).ext
    have hb4 : Has w4 b1 _ := u4.keep (hb.ext' n3.ext) (by omega)
    refine zst ?_
    refine WU.stp rfl rfl rfl (stp_call rfl (c_sameName m.name s m.pkg pk w4)) ?_
    rintro _ _ ⟨rfl, rfl⟩
    cases hsn : sameNm m.name.toList m.pkg s.toList pk
    · refine zst ?_
      exact ⟨k + 1, by omega, ⟨rfl, by omega, xr.trans x4, hb4, fun j m' hj hm' => by
        by_cases hjk : j = k
        · subst hjk; rw [hm] at hm'; cases hm'; exact hsn
        · exact hall j m' (by omega) hm'⟩, sub_of ⟨rfl, rfl, rfl, rfl, rfl, rfl, rfl, trivial⟩⟩
    · refine zst ?_
      refine WU.stp0 rfl rfl (stp_store_whole rfl rfl rfl rfl) ?_
      rintro _ w5 u5
      refine zst ?_
      refine finct (.inl rfl) rfl rfl rfl ⟨?_, u5.ext (xr.trans x4) (by omega)⟩
      have hf : findM l s.toList pk = some m := by
        rw [findM_take hall]
        unfold findM
        rw [List.drop_eq_getElem_cons hlt, List.find?_cons]
        have : l[k] = m := by rw [List.getElem?_eq_getElem hlt] at hm; exact Option.some.inj hm
        rw [this, hsn]
      rw [hf]
      exact ⟨a1, c1, rfl, hte.ext (u5.ext (xr.trans x4) (by omega))⟩
  · rw [show decide ((k : Int) < (l.length : Int)) = false by simpa using hlt]
    refine zst ?_
    refine WU.stp0 rfl rfl (stp_store_whole rfl rfl rfl rfl) ?_
    rintro _ w5 u5
    refine zst ?_
    refine finct (.inl rfl) rfl rfl rfl ⟨?_, u5.ext xr (by omega)⟩
    have hf : findM l s.toList pk = none := by
      rw [findM_take hall, List.drop_eq_nil_of_le (by omega)]; rfl
    rw [hf]
    exact rfl
end Go.Proofs.YtelmnkfdpnkpoaaGreatDoor
namespace Go.Proofs.YtelmnkfdpnkpoaaGreatDoor
open Go Go.Kd
set_option maxRecDepth 100000

def nilP : Option Value → Bool
  | some (.pointer none) => true
  | _ => false
def nilI : Option Value → Bool
  | some .nilIface => true
  | _ => false
abbrev tIF : Nat := 134
abbrev tSG : Nat := 129
abbrev tNM : Nat := 145
abbrev tTN : Nat := 171
abbrev tBU : Nat := 89
abbrev tPI : Nat := 79
abbrev tTY : Nat := 57
/-- where things lie: blocks below N never turn; nb: the row of the declared types, bb: the builder, pp, pq: the packages -/
structure Cfg where
  N : Nat
  nb : Nat
  D : List De
/-- may cell i of block b, of type t, turn? c: 0 while types are made, 1 while type sets are computed, 2 while declarations are made, 3: receivers too -/
def mc (K : Cfg) (c : Nat) (b t : Nat) (cs : Array Value) (i : Nat) : Bool :=
  if t = tTY then decide (2 ≤ c) && b == K.nb else if t = tIF then decide (1 ≤ c) && (i == 6 && nilP cs[6]?) else if t = tSG then decide (3 ≤ c) && i == 0 else if t = tNM then decide (2 ≤ c) && (if nilI cs[7]? then decide (2 ≤ i) else i == 9)
  else if t = tTN then decide (2 ≤ c) && (i == 3 && nilI cs[3]?) else if t = tBU then i == 4 else t == tPI
structure MOk (K : Cfg) (c : Nat) (b t : Nat) (cs cs' : Array Value) : Prop where
  size : cs'.size = cs.size
  cell : ∀ i, mc K c b t cs i = false → cs'[i]? = cs[i]?
theorem MOk.rfl' (K : Cfg) (c b t : Nat) (cs : Array Value) : MOk K c b t cs cs := ⟨rfl, fun _ _ => rfl⟩
theorem mc_mono {K : Cfg} {c b t : Nat} {cs cs' : Array Value} (h : MOk K c b t cs cs') {i : Nat} (hi : mc K c b t cs i = false) : mc K c b t cs' i = false := by
  have h6 := h.cell 6
  have h7 := h.cell 7
  have h3 := h.cell 3
  unfold mc at *
  by_cases t0 : t = tTY
  · simp only [t0, if_true] at *; exact hi
  simp only [t0, if_false] at *
  by_cases t1 : t = tIF
  · simp only [t1, if_true] at *
    cases h1 : decide (1 ≤ c)
    · simp
    simp only [h1, Bool.true_and] at *
    by_cases hi6 : i = 6
    · subst hi6
      simp only [beq_self_eq_true, Bool.true_and] at *
      rw [h6 hi]; exact hi
    · simp [hi6]
  · simp only [t1, if_false] at *
    by_cases t2 : t = tSG
    · simp only [t2, if_true] at *; exact hi
    · simp only [t2, if_false] at *
      by_cases t3 : t = tNM
      · simp only [t3, if_true] at *
        cases h1 : decide (2 ≤ c)
        · simp
        simp only [h1, Bool.true_and] at *
        cases hn : nilI cs[7]? with
        | true =>
          simp only [hn, if_true] at hi
          split
          · exact hi
          · simp at hi ⊢; omega
        | false =>
          simp only [hn] at h7 hi
          rw [h7 (by simp), hn]
          exact hi
      · simp only [t3, if_false] at *
        by_cases t4 : t = tTN
        · simp only [t4, if_true] at *
          cases h1 : decide (2 ≤ c)
          · simp
          simp only [h1, Bool.true_and] at *
          by_cases hi3 : i = 3
          · subst hi3
            simp only [beq_self_eq_true, Bool.true_and] at *
            rw [h3 hi]; exact hi
          · simp [hi3]
        · simp only [t4, if_false] at *
          exact hi
theorem and_lev {c c' k : Nat} {x : Bool} (hc : c ≤ c') (h : (decide (k ≤ c') && x) = false) : (decide (k ≤ c) && x) = false := by
  cases x
  · simp
  · simp at *; omega
theorem mc_lev {K : Cfg} {c c' b t : Nat} {cs : Array Value} {i : Nat} (hc : c ≤ c') (h : mc K c' b t cs i = false) : mc K c b t cs i = false := by
  unfold mc at *
  by_cases t0 : t = tTY
  · rw [if_pos t0] at *; exact and_lev hc h
  rw [if_neg t0] at *
  by_cases t1 : t = tIF
  · rw [if_pos t1] at *; exact and_lev hc h
  rw [if_neg t1] at *
  by_cases t2 : t = tSG
  · rw [if_pos t2] at *; exact and_lev hc h
  rw [if_neg t2] at *
  by_cases t3 : t = tNM
  · rw [if_pos t3] at *; exact and_lev hc h
  rw [if_neg t3] at *
  by_cases t4 : t = tTN
  · rw [if_pos t4] at *; exact and_lev hc h
  rw [if_neg t4] at *
  exact h
theorem MOk.lev {K : Cfg} {c c' d t : Nat} {a b : Array Value} (hc : c ≤ c') (h : MOk K c d t a b) : MOk K c' d t a b := ⟨h.size, fun i hi => h.cell i (mc_lev hc hi)⟩
theorem MOk.trans {K : Cfg} {l d t : Nat} {a b c : Array Value} (h : MOk K l d t a b) (k : MOk K l d t b c) : MOk K l d t a c :=
  ⟨k.size.trans h.size, fun i hi => (k.cell i (mc_mono h hi)).trans (h.cell i hi)⟩

/-- what was there stays, but for what may turn -/
structure Sta (K : Cfg) (c : Nat) (w w' : World) : Prop where
  os : w'.os = w.os
  tape : w'.tape = w.tape
  output : w'.output = w.output
  size : w.heap.size ≤ w'.heap.size
  old : ∀ b, b < K.N → b < w.heap.size → w'.heap[b]? = w.heap[b]?
  new : ∀ b cs t fz, K.N ≤ b → t ≠ tPI → w.heap[b]? = some (.cells cs t fz) → ∃ cs', w'.heap[b]? = some (.cells cs' t fz) ∧ MOk K c b t cs cs'
  oth : ∀ b o, K.N ≤ b → w.heap[b]? = some o → (∀ cs t fz, o ≠ .cells cs t fz) → w'.heap[b]? = some o
theorem Sta.of_ext {K : Cfg} {c : Nat} {w w' : World} (x : Ext w w') : Sta K c w w' :=
  ⟨x.below.os, x.below.tape, x.below.output, x.below.size, fun b _ hb => x.below.block b hb, fun b cs t fz _ _ h => ⟨cs, by rw [x.below.block b (Array.getElem?_eq_some_iff.1 h).1]; exact h, .rfl' ..⟩,
    fun b o _ h _ => by rw [x.below.block b (Array.getElem?_eq_some_iff.1 h).1]; exact h⟩
theorem Sta.rfl' (K : Cfg) (c : Nat) (w : World) : Sta K c w w := .of_ext (Ext.rfl' w)
theorem Sta.lev {K : Cfg} {c c' : Nat} {a b : World} (hc : c ≤ c') (h : Sta K c a b) : Sta K c' a b := ⟨h.os, h.tape, h.output, h.size, h.old, fun d cs t fz hd ht ha => by
    obtain ⟨cs', h1, h2⟩ := h.new d cs t fz hd ht ha
    exact ⟨cs', h1, h2.lev hc⟩, h.oth⟩
theorem Sta.trans {K : Cfg} {l : Nat} {a b c : World} (h : Sta K l a b) (k : Sta K l b c) : Sta K l a c :=
  ⟨k.os.trans h.os, k.tape.trans h.tape, k.output.trans h.output, Nat.le_trans h.size k.size, fun d hd ha => (k.old d hd (by have := h.size; omega)).trans (h.old d hd ha), fun d cs t fz hd ht ha => by
    obtain ⟨cs', h1, h2⟩ := h.new d cs t fz hd ht ha
    obtain ⟨cs2, h3, h4⟩ := k.new d cs' t fz hd ht h1
    exact ⟨cs2, h3, h2.trans h4⟩, fun d o hd ha ho => k.oth d o hd (h.oth d o hd ha ho) ho⟩
theorem Sta.ext {K : Cfg} {l : Nat} {a b c : World} (h : Sta K l a b) (k : Ext b c) : Sta K l a c := h.trans (.of_ext k)
/-- a store that is allowed -/
theorem Sta.of_upd {K : Cfg} {c : Nat} {w w' : World} {b : Nat} {cs cs' : Array Value} {t : TypeId} (hb : Has w b (.cells cs t (0, 0))) (u : Upd w b (.cells cs' t (0, 0)) w') (hN : K.N ≤ b) (hm : MOk K c b t cs cs') : Sta K c w w' :=
  ⟨u.os, u.tape, u.output, Nat.le_of_eq u.size.symm, fun d hd _ => u.oth d (by omega), fun d cs2 t2 fz hd _ h => by
    by_cases hdb : d = b
    · subst hdb
      have := hb.at_.symm.trans h
      cases this
      exact ⟨cs', u.has.at_, hm⟩
    · exact ⟨cs2, by rw [u.oth d hdb]; exact h, .rfl' ..⟩, fun d o hd h ho => by
    by_cases hdb : d = b
    · subst hdb
      have := hb.at_.symm.trans h
      cases this
      exact absurd rfl (ho _ _ _)
    · rw [u.oth d hdb]; exact h⟩
/-- a store into what is newer -/
theorem Sta.upd_new {K : Cfg} {c : Nat} {w0 w w' : World} {b : Nat} {o : Obj} (h : Sta K c w0 w) (u : Upd w b o w') (hb : w0.heap.size ≤ b) : Sta K c w0 w' :=
  ⟨u.os.trans h.os, u.tape.trans h.tape, u.output.trans h.output, by rw [u.size]; exact h.size, fun d hd ha => by rw [u.oth d (by omega)]; exact h.old d hd ha, fun d cs t fz hd ht ha => by
    have hlt := (Array.getElem?_eq_some_iff.1 ha).1
    rw [u.oth d (by omega)]; exact h.new d cs t fz hd ht ha, fun d o' hd ha ho => by
    have hlt := (Array.getElem?_eq_some_iff.1 ha).1
    rw [u.oth d (by omega)]; exact h.oth d o' hd ha ho⟩
theorem Sta.app_new {K : Cfg} {c : Nat} {w0 w w' : World} {base el sz : Nat} {v : Value} {ls : List (List Value)} (h : Sta K c w0 w) (a : App w w' v) (ho : Own w base el sz v ls) (hb : w0.heap.size ≤ base) : Sta K c w0 w' := by
  have hs := h.size
  have hk : ∀ d, d < w0.heap.size → w'.heap[d]? = w.heap[d]? := fun d hd => a.block d (by omega) fun e => by have := ho.lt d e.symm; omega
  exact ⟨a.os.trans h.os, a.tape.trans h.tape, a.output.trans h.output, Nat.le_trans hs a.size, fun d hd ha => by rw [hk d ha]; exact h.old d hd ha, fun d cs t fz hd ht ha => by
    rw [hk d (Array.getElem?_eq_some_iff.1 ha).1]; exact h.new d cs t fz hd ht ha, fun d o' hd ha ho' => by
    rw [hk d (Array.getElem?_eq_some_iff.1 ha).1]; exact h.oth d o' hd ha ho'⟩

/-- appending to the interfaces that were made -/
theorem Sta.of_app {K : Cfg} {c : Nat} {w w' : World} {base sz : Nat} {v : Value} {ls : List (List Value)} (a : App w w' v) (ho : Own w base tPI sz v ls) (hb : K.N ≤ base) : Sta K c w w' := by
  have hk : ∀ (d : Nat) (o : Obj), w.heap[d]? = some o → (∀ cs fz, o ≠ Obj.cells cs tPI fz) → w'.heap[d]? = some o := fun d o hd hne => by
    rw [a.block d (Array.getElem?_eq_some_iff.1 hd).1 fun e => ?_]
    · exact hd
    · rcases ho.row.2 with ⟨h1, _⟩ | ⟨g, cap, cur, h1, _, h3, _⟩
      · rw [h1] at e; cases e
      · rw [h1] at e
        cases e
        rw [hd] at h3
        exact hne _ _ (Option.some.inj h3)
  exact ⟨a.os, a.tape, a.output, a.size, fun d hd hs => a.block d hs fun e => by have := ho.lt d e.symm; omega, fun d cs t fz _ ht ha => ⟨cs, hk d _ ha fun cs2 fz2 e => by
    cases e; exact ht rfl, .rfl' ..⟩, fun d o _ ha hne => hk d o ha fun cs fz => hne cs tPI fz⟩
/-- types whose blocks do not turn -/
class Imm (t : Nat) : Prop where
  mc : ∀ K c b cs i, mc K c b t cs i = false
theorem imm_of {t : Nat} (h : (t != tTY && (t != tIF && (t != tSG && (t != tNM && (t != tTN && (t != tBU && t != tPI)))))) = true) : Imm t := ⟨fun K c b cs i => by
  simp only [Bool.and_eq_true, bne_iff_ne] at h
  obtain ⟨h0, h1, h2, h3, h4, h5, h6⟩ := h
  unfold Go.Proofs.YtelmnkfdpnkpoaaGreatDoor.mc
  rw [if_neg h0, if_neg h1, if_neg h2, if_neg h3, if_neg h4, if_neg h5]
  simpa using h6⟩
theorem Imm.ne {t : Nat} (h : Imm t) : t ≠ tPI := fun e => by
  have := h.mc ⟨0, 0, []⟩ 0 0 #[] 0
  rw [e] at this
  exact absurd this (by decide)
theorem Sta.has {K : Cfg} {c : Nat} {w w' : World} (x : Sta K c w w') {b t : Nat} {cs : Array Value} {fz : Nat × Nat} (ht : t ≠ tPI) (h : Has w b (.cells cs t fz)) : ∃ cs', Has w' b (.cells cs' t fz) ∧ MOk K c b t cs cs' := by
  by_cases hb : b < K.N
  · exact ⟨cs, ⟨(x.old b hb h.lt).trans h.at_⟩, .rfl' ..⟩
  · obtain ⟨cs', h1, h2⟩ := x.new b cs t fz (by omega) ht h.at_
    exact ⟨cs', ⟨h1⟩, h2⟩
theorem Has.sta {K : Cfg} {c : Nat} {w w' : World} {b t : Nat} {cs : Array Value} {fz : Nat × Nat} [hi : Imm t] (x : Sta K c w w') (h : Has w b (.cells cs t fz)) : Has w' b (.cells cs t fz) := by
  obtain ⟨cs', h1, h2⟩ := x.has hi.ne h
  have : cs' = cs := by
    apply Array.ext_getElem?
    intro i
    exact h2.cell i (hi.mc K c b cs i)
  rw [← this]; exact h1
/-- a row of types, other than that of the declared ones -/
theorem Has.staT {K : Cfg} {c : Nat} {w w' : World} {b : Nat} {cs : Array Value} {fz : Nat × Nat} (x : Sta K c w w') (hb : b ≠ K.nb) (h : Has w b (.cells cs tTY fz)) : Has w' b (.cells cs tTY fz) := by
  obtain ⟨cs', h1, h2⟩ := x.has (by decide) h
  have : cs' = cs := by
    apply Array.ext_getElem?
    intro i
    exact h2.cell i (by simp [mc, hb])
  rw [← this]; exact h1
theorem Sta.olds {K : Cfg} {c : Nat} {w w' : World} (x : Sta K c w w') {p : Nat → Prop} (hp : ∀ b, p b → b < K.N ∧ b < w.heap.size) : ∀ b, p b → w'.heap[b]? = w.heap[b]? := fun b hb => x.old b (hp b hb).1 (hp b hb).2
instance : Imm 26 := imm_of rfl
instance : Imm 45 := imm_of rfl
instance : Imm 78 := imm_of rfl
instance : Imm 180 := imm_of rfl
instance : Imm 165 := imm_of rfl
instance : Imm 198 := imm_of rfl
instance : Imm 187 := imm_of rfl
instance : Imm 223 := imm_of rfl
instance : Imm 226 := imm_of rfl
instance : Imm 183 := imm_of rfl
instance : Imm 206 := imm_of rfl
instance : Imm 185 := imm_of rfl
instance : Imm 173 := imm_of rfl
instance : Imm 247 := imm_of rfl
instance : Imm 118 := imm_of rfl
instance : Imm 215 := imm_of rfl
instance : Imm 241 := imm_of rfl
instance : Imm 98 := imm_of rfl
instance : Imm 102 := imm_of rfl
instance : Imm 9 := imm_of rfl
end Go.Proofs.YtelmnkfdpnkpoaaGreatDoor
namespace Go.Proofs.YtelmnkfdpnkpoaaGreatDoor
open Go Go.Kd
set_option maxRecDepth 100000

abbrev pt (b : Nat) : Value := .pointer (some ⟨b, 0, none⟩)
/-- what is known of the blocks: the declared types' values, and from what each block was built -/
structure Gs where
  nm : Nat → Option Value
  g : Nat → Option Ty
  er : Value
  pk : Int → Value
  sl : Nat → Prop
structure Gs.le (s s' : Gs) : Prop where
  nm : ∀ i v, s.nm i = some v → s'.nm i = some v
  g : ∀ b t, s.g b = some t → s'.g b = some t
  er : s'.er = s.er
  pk : s'.pk = s.pk
theorem Gs.le.rfl' (s : Gs) : s.le s := ⟨fun _ _ h => h, fun _ _ h => h, rfl, rfl⟩
theorem Gs.le.trans {a b c : Gs} (h : a.le b) (k : b.le c) : a.le c := ⟨fun i v x => k.nm i v (h.nm i v x), fun i v x => k.g i v (h.g i v x), k.er.trans h.er, k.pk.trans h.pk⟩
def Gs.set (s : Gs) (b : Nat) (t : Ty) : Gs := { s with g := fun c => if c = b then some t else s.g c }
theorem Gs.le_set {s : Gs} {b : Nat} {t : Ty} (h : s.g b = none) : s.le (s.set b t) := ⟨fun _ _ h => h, fun c u hc => by
  unfold Gs.set
  by_cases hcb : c = b
  · subst hcb; rw [h] at hc; cases hc
  · simp [hcb, hc], rfl, rfl⟩

/-! ### From one world, and the blocks that are read in it, to another -/
structure Tr (K : Cfg) (w w' : World) (p q : Nat → Prop) : Prop where
  has : ∀ b cs t, p b → t ≠ tPI → Has w b (.cells cs t) → q b ∧ ∃ cs', Has w' b (.cells cs' t) ∧ MOk K 3 b t cs cs'
theorem Tr.sta {K : Cfg} {l : Nat} {w w' : World} (x : Sta K l w w') (hl : l ≤ 3) (p : Nat → Prop) : Tr K w w' p p := ⟨fun b cs t hp ht h => by
  obtain ⟨cs', h1, h2⟩ := x.has ht h
  exact ⟨hp, cs', h1, h2.lev hl⟩⟩
theorem Tr.same {K : Cfg} {w w' : World} {p : Nat → Prop} (hs : ∀ b, p b → w'.heap[b]? = w.heap[b]?) : Tr K w w' p p := ⟨fun b cs _ hp _ h => ⟨hp, cs, ⟨(hs b hp).trans h.at_⟩, .rfl' ..⟩⟩
theorem Tr.mono {K : Cfg} {w : World} {p q : Nat → Prop} (hq : ∀ b, b < w.heap.size → p b → q b) : Tr K w w p q := ⟨fun b cs _ hp _ h => ⟨hq b h.lt hp, cs, h, .rfl' ..⟩⟩
theorem Tr.imm {K : Cfg} {w w' : World} {p q : Nat → Prop} (x : Tr K w w' p q) {b t : Nat} [hi : Imm t] {cs : Array Value} (hp : p b) (h : Has w b (.cells cs t)) : q b ∧ Has w' b (.cells cs t) := by
  obtain ⟨h0, cs', h1, h2⟩ := x.has b cs t hp hi.ne h
  have : cs' = cs := by
    apply Array.ext_getElem?
    intro i
    exact h2.cell i (hi.mc K 3 b cs i)
  rw [← this]; exact ⟨h0, h1⟩
theorem Tr.immT {K : Cfg} {w w' : World} {p q : Nat → Prop} (x : Tr K w w' p q) {b : Nat} {cs : Array Value} (hp : p b) (hb : b ≠ K.nb) (h : Has w b (.cells cs tTY)) : q b ∧ Has w' b (.cells cs tTY) := by
  obtain ⟨h0, cs', h1, h2⟩ := x.has b cs tTY hp (by decide) h
  have : cs' = cs := by
    apply Array.ext_getElem?
    intro i
    exact h2.cell i (by simp [mc, hb])
  rw [← this]; exact ⟨h0, h1⟩

def VarV (w : World) (b : Nat) (pk : Value) (name : ByteArray) (v : Value) (kd : Int) (emb : Bool) : Prop :=
  Has w b (.cells #[.int .i64 0, pk, .string name, v, .int .u8 kd, .bool emb] 185)
def FuncV (w : World) (b : Nat) (pk : Value) (name : ByteArray) (v : Value) : Prop :=
  Has w b (.cells #[.int .i64 0, pk, .string name, v, .bool false, .bool false] 173)
/-- a row of n pointers of a type -/
def RowP (w : World) (t : Nat) (a : Option Addr) (n : Nat) (f : Nat → Nat) : Prop := ∀ i, i < n → ∃ b cs, a = some ⟨b, 0, none⟩ ∧ Has w b (.cells cs t) ∧ cs[i]? = some (pt (f i))
def RowQ (w : World) (p : Nat → Prop) (t : Nat) (a : Option Addr) (n : Nat) (f : Nat → Nat) : Prop := ∀ i, i < n → ∃ b cs, a = some ⟨b, 0, none⟩ ∧ p b ∧ Has w b (.cells cs t) ∧ cs[i]? = some (pt (f i))
/-- a row of n values of gotypes.Type -/
def RowT (K : Cfg) (w : World) (p : Nat → Prop) (a : Option Addr) (n : Nat) (f : Nat → Value) : Prop := ∀ i, i < n → ∃ b cs, a = some ⟨b, 0, none⟩ ∧ p b ∧ b ≠ K.nb ∧ Has w b (.cells cs tTY) ∧ cs[i]? = some (f i)
def RowS (w : World) (p : Nat → Prop) (a : Option Addr) (n : Nat) (f : Nat → ByteArray) : Prop := ∀ i, i < n → ∃ b cs, a = some ⟨b, 0, none⟩ ∧ p b ∧ Has w b (.cells cs 9) ∧ cs[i]? = some (.string (f i))
/-- a tuple of n variables -/
def TupV (w : World) (p : Nat → Prop) (q : Value) (n : Nat) (f : Nat → Nat) : Prop :=
  (q = .pointer none ∧ n = 0) ∨ ∃ b a c, q = pt b ∧ 0 < n ∧ p b ∧ Has w b (.cells #[.slice a n c] 206) ∧ RowQ w p 98 a n f
theorem VarV.tr {K : Cfg} {w w' : World} {p q : Nat → Prop} (x : Tr K w w' p q) {b : Nat} {pk : Value} {name : ByteArray} {v : Value} {kd : Int} {emb : Bool} (hp : p b) (h : VarV w b pk name v kd emb) : q b ∧ VarV w' b pk name v kd emb := x.imm hp h
theorem FuncV.tr {K : Cfg} {w w' : World} {p q : Nat → Prop} (x : Tr K w w' p q) {b : Nat} {pk : Value} {name : ByteArray} {v : Value} (hp : p b) (h : FuncV w b pk name v) : q b ∧ FuncV w' b pk name v := x.imm hp h
theorem FuncV.sta {K : Cfg} {l : Nat} {w w' : World} (x : Sta K l w w') {b : Nat} {pk : Value} {name : ByteArray} {v : Value} (h : FuncV w b pk name v) : FuncV w' b pk name v := Has.sta x h
theorem VarV.sta {K : Cfg} {l : Nat} {w w' : World} (x : Sta K l w w') {b : Nat} {pk : Value} {name : ByteArray} {v : Value} {kd : Int} {emb : Bool} (h : VarV w b pk name v kd emb) : VarV w' b pk name v kd emb := Has.sta x h
theorem RowP.sta {K : Cfg} {l : Nat} {w w' : World} (x : Sta K l w w') {t : Nat} [Imm t] {a : Option Addr} {n : Nat} {f : Nat → Nat} (h : RowP w t a n f) : RowP w' t a n f := fun i hi => by
  obtain ⟨b, cs, h1, h2, h3⟩ := h i hi
  exact ⟨b, cs, h1, Has.sta x h2, h3⟩
theorem RowQ.row {w : World} {p : Nat → Prop} {t : Nat} {a : Option Addr} {n : Nat} {f : Nat → Nat} (h : RowQ w p t a n f) : RowP w t a n f := fun i hi => by
  obtain ⟨b, cs, h1, _, h2, h3⟩ := h i hi
  exact ⟨b, cs, h1, h2, h3⟩
theorem RowQ.tr {K : Cfg} {w w' : World} {p q : Nat → Prop} (x : Tr K w w' p q) {t : Nat} [Imm t] {a : Option Addr} {n : Nat} {f : Nat → Nat} (h : RowQ w p t a n f) : RowQ w' q t a n f := fun i hi => by
  obtain ⟨b, cs, h1, h0, h2, h3⟩ := h i hi
  obtain ⟨k1, k2⟩ := x.imm h0 h2
  exact ⟨b, cs, h1, k1, k2, h3⟩
theorem RowT.tr {K : Cfg} {w w' : World} {p q : Nat → Prop} (x : Tr K w w' p q) {a : Option Addr} {n : Nat} {f : Nat → Value} (h : RowT K w p a n f) : RowT K w' q a n f := fun i hi => by
  obtain ⟨b, cs, h1, hp, h0, h2, h3⟩ := h i hi
  obtain ⟨k1, k2⟩ := x.immT hp h0 h2
  exact ⟨b, cs, h1, k1, h0, k2, h3⟩
theorem RowS.tr {K : Cfg} {w w' : World} {p q : Nat → Prop} (x : Tr K w w' p q) {a : Option Addr} {n : Nat} {f : Nat → ByteArray} (h : RowS w p a n f) : RowS w' q a n f := fun i hi => by
  obtain ⟨b, cs, h1, h0, h2, h3⟩ := h i hi
  obtain ⟨k1, k2⟩ := x.imm h0 h2
  exact ⟨b, cs, h1, k1, k2, h3⟩
theorem TupV.tr {K : Cfg} {w w' : World} {p q : Nat → Prop} (x : Tr K w w' p q) {v : Value} {n : Nat} {f : Nat → Nat} (h : TupV w p v n f) : TupV w' q v n f := by
  rcases h with h | ⟨b, a, c, h1, h2, h0, h3, h4⟩
  · exact .inl h
  · obtain ⟨k1, k2⟩ := x.imm h0 h3
    exact .inr ⟨b, a, c, h1, h2, k1, k2, h4.tr x⟩

/-- the kind of a basic type in package go/types -/
def bk (n : Int) : Int := if n = 18 then 8 else if n = 19 then 5 else n + 1

/-- what an interface type's block holds -/
abbrev ifc (ma : Option Addr) (mn mc : Nat) (ea : Option Addr) (en ec : Nat) (ts : Value) : Array Value := #[.pointer none, .slice ma mn mc, .slice ea en ec, .pointer none, .bool false, .bool true, ts]
/-- .. but for its type set -/
def IfB (w : World) (b : Nat) (ma : Option Addr) (mn mc : Nat) (ea : Option Addr) (en ec : Nat) : Prop := ∃ ts, Has w b (.cells (ifc ma mn mc ea en ec ts) tIF)
theorem MOk.ifb {K : Cfg} {l b : Nat} {cs' : Array Value} {ma : Option Addr} {mn mc : Nat} {ea : Option Addr} {en ec : Nat} {ts : Value} (h2 : MOk K l b tIF (ifc ma mn mc ea en ec ts) cs') : ∃ ts', cs' = ifc ma mn mc ea en ec ts' := by
  have hc : ∀ i, i < 6 → cs'[i]? = (ifc ma mn mc ea en ec ts)[i]? := fun i hi => h2.cell i (by
    unfold Go.Proofs.YtelmnkfdpnkpoaaGreatDoor.mc
    simp only [show ¬ tIF = tTY from by decide, if_false, if_true]
    have : i ≠ 6 := by omega
    simp [this])
  have h7 : cs'.size = 7 := h2.size
  refine ⟨cs'[6], ?_⟩
  apply Array.ext_getElem?
  intro i
  by_cases hi : i < 6
  · rw [hc i hi]
    match i, hi with
    | 0, _ | 1, _ | 2, _ | 3, _ | 4, _ | 5, _ => rfl
  · by_cases hi6 : i = 6
    · subst hi6; simp [h7]
    · rw [Array.getElem?_eq_none (by omega), Array.getElem?_eq_none (by simp; omega)]
theorem IfB.tr {K : Cfg} {w w' : World} {p q : Nat → Prop} (x : Tr K w w' p q) {b : Nat} {ma : Option Addr} {mn mc : Nat} {ea : Option Addr} {en ec : Nat} (hp : p b) (h : IfB w b ma mn mc ea en ec) : q b ∧ IfB w' b ma mn mc ea en ec := by
  obtain ⟨ts, h⟩ := h
  obtain ⟨h0, cs', h1, h2⟩ := x.has _ _ _ hp (by decide) h
  obtain ⟨ts', rfl⟩ := h2.ifb
  exact ⟨h0, ts', h1⟩
def SigB (w : World) (b : Nat) (ps rs : Value) (vr : Bool) : Prop := ∃ rv, Has w b (.cells #[rv, .pointer none, ps, rs, .bool vr] tSG)
theorem SigB.tr {K : Cfg} {w w' : World} {p q : Nat → Prop} (x : Tr K w w' p q) {b : Nat} {ps rs : Value} {vr : Bool} (hp : p b) (h : SigB w b ps rs vr) : q b ∧ SigB w' b ps rs vr := by
  obtain ⟨rv, h⟩ := h
  obtain ⟨h0, cs', h1, h2⟩ := x.has _ _ _ hp (by decide) h
  have hc : ∀ i, i ≠ 0 → cs'[i]? = (#[rv, Value.pointer none, ps, rs, .bool vr] : Array Value)[i]? := fun i hi => h2.cell i (by
    unfold Go.Proofs.YtelmnkfdpnkpoaaGreatDoor.mc
    simp only [show ¬ tSG = tTY from by decide, show ¬ tSG = tIF from by decide, if_false, if_true]
    simp [hi])
  have h7 : cs'.size = 5 := h2.size
  refine ⟨h0, cs'[0], ?_⟩
  have : cs' = #[cs'[0], .pointer none, ps, rs, .bool vr] := by
    apply Array.ext_getElem?
    intro i
    by_cases hi : i = 0
    · subst hi; simp [h7]
    · rw [hc i hi]
      match i, hi with
      | 1, _ | 2, _ | 3, _ | 4, _ => rfl
      | i + 5, _ => rw [Array.getElem?_eq_none (by simp), Array.getElem?_eq_none (by simp)]
  rw [← this]; exact h1

/-- the package of a method -/
def PkOk (s : Gs) (n : Int) (nm : ByteArray) (pk : Value) : Prop := pk = s.pk n ∨ (pk = .pointer none ∧ expo nm.toList = true)
/-- value v of gotypes.Type was built from t; the blocks that are read: p -/
inductive RT (K : Cfg) (s : Gs) (w : World) (p : Nat → Prop) : Value → Ty → Prop
  | basic (t : Ty) (b : Nat) (i : Int) (nb : ByteArray) : t.kind = 0 → 0 ≤ t.n → t.n < 20 → p b → Has w b (.cells #[.int .i64 (bk t.n), .int .i64 i, .string nb] 180) → s.g b = some t → RT K s w p (.iface 123 (pt b)) t
  | error (t : Ty) : t.kind = 0 → t.n = 20 → RT K s w p s.er t
  | any (t : Ty) (b : Nat) : t.kind = 0 → t.n = 21 → p b → IfB w b none 0 0 none 0 0 → s.g b = some t → RT K s w p (.iface 79 (pt b)) t
  | named (t : Ty) (v : Value) : t.kind = 1 → s.nm t.n.toNat = some v → RT K s w p v t
  | ptr (t e : Ty) (v : Value) (b : Nat) : t.kind = 2 → t.elems = [e] → RT K s w p v e → p b → Has w b (.cells #[v] 165) → s.g b = some t → RT K s w p (.iface 96 (pt b)) t
  | slice (t e : Ty) (v : Value) (b : Nat) : t.kind = 3 → t.elems = [e] → RT K s w p v e → p b → Has w b (.cells #[v] 198) → s.g b = some t → RT K s w p (.iface 147 (pt b)) t
  | array (t e : Ty) (v : Value) (b : Nat) : t.kind = 4 → t.elems = [e] → RT K s w p v e → p b → Has w b (.cells #[.int .i64 t.n, v] 187) → s.g b = some t → RT K s w p (.iface 149 (pt b)) t
  | map (t k e : Ty) (u v : Value) (b : Nat) : t.kind = 5 → t.elems = [k, e] → RT K s w p u k → RT K s w p v e → p b → Has w b (.cells #[u, v] 223) → s.g b = some t → RT K s w p (.iface 151 (pt b)) t
  | chan (t e : Ty) (v : Value) (b : Nat) : t.kind = 6 → t.elems = [e] → RT K s w p v e → p b → Has w b (.cells #[.int .i64 t.n, v] 226) → s.g b = some t → RT K s w p (.iface 153 (pt b)) t
  | struct (t : Ty) (b : Nat) (fa : Option Addr) (fc : Nat) (ta : Option Addr) (tc : Nat) (vb : Nat → Nat) (vv : Nat → Value) (tg : Nat → ByteArray) : t.kind = 7 →
      (∀ (i : Nat) e, t.elems[i]? = some e → RT K s w p (vv i) e) → (∀ (i : Nat) e, t.elems[i]? = some e → p (vb i) ∧ VarV w (vb i) (s.pk t.n) e.name (vv i) 6 e.emb ∧ tg i = e.tag) →
      p b → Has w b (.cells #[.slice fa t.elems.length fc, .slice ta t.elems.length tc] 183) → RowQ w p 98 fa t.elems.length vb → RowS w p ta t.elems.length tg → s.g b = some t → RT K s w p (.iface 159 (pt b)) t
  | func (t : Ty) (b : Nat) (ps rs : Value) (vb : Nat → Nat) (vv : Nat → Value) : t.kind = 8 →
      (∀ (i : Nat) e, t.elems[i]? = some e → RT K s w p (vv i) e) → (∀ (i : Nat) e, t.elems[i]? = some e → ∃ pk kd, p (vb i) ∧ VarV w (vb i) pk e.name (vv i) kd false) →
      p b → SigB w b ps rs t.vr → TupV w p ps t.count.toNat vb → TupV w p rs (t.elems.length - t.count.toNat) (fun i => vb (t.count.toNat + i)) → s.g b = some t → RT K s w p (.iface 104 (pt b)) t
  | iface (t : Ty) (b : Nat) (ma : Option Addr) (mc : Nat) (ea : Option Addr) (ec : Nat) (fb : Nat → Nat) (me : Nat → Ty) (sv ev : Nat → Value) : t.kind = 9 →
      (∀ i, i < t.count.toNat → RT K s w p (sv i) (me i)) → (∀ i, i < t.count.toNat → ∃ pk, PkOk s t.n (me i).name pk ∧ p (fb i) ∧ FuncV w (fb i) pk (me i).name (sv i)) → ((List.range t.count.toNat).map me).Perm (t.elems.take t.count.toNat) →
      (∀ (i : Nat) e, t.elems[t.count.toNat + i]? = some e → RT K s w p (ev i) e) → p b → IfB w b ma t.count.toNat mc ea (t.elems.length - t.count.toNat) ec → RowQ w p 102 ma t.count.toNat fb → RowT K w p ea (t.elems.length - t.count.toNat) ev →
      s.g b = some t → RT K s w p (.iface 79 (pt b)) t

theorem RT.tr {K : Cfg} {s : Gs} {w w' : World} {p q : Nat → Prop} (x : Tr K w w' p q) {v : Value} {t : Ty} (h : RT K s w p v t) : RT K s w' q v t := by
  induction h with
  | basic t b i nb h0 h1 h2 hp h3 h4 => exact .basic t b i nb h0 h1 h2 (x.imm hp h3).1 (x.imm hp h3).2 h4
  | error t h0 h1 => exact .error t h0 h1
  | any t b h0 h1 hp h2 h3 => exact .any t b h0 h1 (h2.tr x hp).1 (h2.tr x hp).2 h3
  | named t v h0 h1 => exact .named t v h0 h1
  | ptr t e v b h0 h1 _ hp h3 h4 ih => exact .ptr t e v b h0 h1 ih (x.imm hp h3).1 (x.imm hp h3).2 h4
  | slice t e v b h0 h1 _ hp h3 h4 ih => exact .slice t e v b h0 h1 ih (x.imm hp h3).1 (x.imm hp h3).2 h4
  | array t e v b h0 h1 _ hp h3 h4 ih => exact .array t e v b h0 h1 ih (x.imm hp h3).1 (x.imm hp h3).2 h4
  | map t k e u v b h0 h1 _ _ hp h3 h4 ih1 ih2 => exact .map t k e u v b h0 h1 ih1 ih2 (x.imm hp h3).1 (x.imm hp h3).2 h4
  | chan t e v b h0 h1 _ hp h3 h4 ih => exact .chan t e v b h0 h1 ih (x.imm hp h3).1 (x.imm hp h3).2 h4
  | struct t b fa fc ta tc vb vv tg h0 _ h2 hp h3 h4 h5 h6 ih => exact .struct t b fa fc ta tc vb vv tg h0 ih (fun i e he => ⟨((h2 i e he).2.1.tr x (h2 i e he).1).1, ((h2 i e he).2.1.tr x (h2 i e he).1).2, (h2 i e he).2.2⟩) (x.imm hp h3).1 (x.imm hp h3).2 (h4.tr x) (h5.tr x) h6
  | func t b ps rs vb vv h0 _ h2 hp h3 h4 h5 h6 ih => exact .func t b ps rs vb vv h0 ih (fun i e he => (h2 i e he).imp fun _ h => h.imp fun _ h => h.2.tr x h.1) (h3.tr x hp).1 (h3.tr x hp).2 (h4.tr x) (h5.tr x) h6
  | iface t b ma mc ea ec fb me sv ev h0 _ h2 h3 _ hp h5 h6 h7 h8 ih1 ih2 => exact .iface t b ma mc ea ec fb me sv ev h0 ih1 (fun i hi => (h2 i hi).imp fun _ h => ⟨h.1, h.2.2.tr x h.2.1⟩) h3 ih2 (h5.tr x hp).1 (h5.tr x hp).2 (h6.tr x) (h7.tr x) h8
theorem RT.sta {K : Cfg} {l : Nat} {s : Gs} {w w' : World} {p : Nat → Prop} (x : Sta K l w w') (hl : l ≤ 3) {v : Value} {t : Ty} (h : RT K s w p v t) : RT K s w' p v t := h.tr (.sta x hl p)
theorem RT.mono {K : Cfg} {s : Gs} {w : World} {p q : Nat → Prop} (hq : ∀ b, b < w.heap.size → p b → q b) {v : Value} {t : Ty} (h : RT K s w p v t) : RT K s w q v t := h.tr (.mono hq)
theorem RT.same {K : Cfg} {s : Gs} {w w' : World} {p : Nat → Prop} (hs : ∀ b, p b → w'.heap[b]? = w.heap[b]?) {v : Value} {t : Ty} (h : RT K s w p v t) : RT K s w' p v t := h.tr (.same hs)
theorem RT.le {K : Cfg} {s s' : Gs} {w : World} {p : Nat → Prop} (l : s.le s') {v : Value} {t : Ty} (h : RT K s w p v t) : RT K s' w p v t := by
  induction h with
  | basic t b i nb h0 h1 h2 hp h3 h4 => exact .basic t b i nb h0 h1 h2 hp h3 (l.g _ _ h4)
  | error t h0 h1 => rw [← l.er]; exact .error t h0 h1
  | any t b h0 h1 hp h2 h3 => exact .any t b h0 h1 hp h2 (l.g _ _ h3)
  | named t v h0 h1 => exact .named t v h0 (l.nm _ _ h1)
  | ptr t e v b h0 h1 _ hp h3 h4 ih => exact .ptr t e v b h0 h1 ih hp h3 (l.g _ _ h4)
  | slice t e v b h0 h1 _ hp h3 h4 ih => exact .slice t e v b h0 h1 ih hp h3 (l.g _ _ h4)
  | array t e v b h0 h1 _ hp h3 h4 ih => exact .array t e v b h0 h1 ih hp h3 (l.g _ _ h4)
  | map t k e u v b h0 h1 _ _ hp h3 h4 ih1 ih2 => exact .map t k e u v b h0 h1 ih1 ih2 hp h3 (l.g _ _ h4)
  | chan t e v b h0 h1 _ hp h3 h4 ih => exact .chan t e v b h0 h1 ih hp h3 (l.g _ _ h4)
  | struct t b fa fc ta tc vb vv tg h0 _ h2 hp h3 h4 h5 h6 ih => exact .struct t b fa fc ta tc vb vv tg h0 ih (by rw [l.pk]; exact h2) hp h3 h4 h5 (l.g _ _ h6)
  | func t b ps rs vb vv h0 _ h2 hp h3 h4 h5 h6 ih => exact .func t b ps rs vb vv h0 ih h2 hp h3 h4 h5 (l.g _ _ h6)
  | iface t b ma mc ea ec fb me sv ev h0 _ h2 h3 _ hp h5 h6 h7 h8 ih1 ih2 => exact .iface t b ma mc ea ec fb me sv ev h0 ih1 (by unfold PkOk; rw [l.pk]; exact h2) h3 ih2 hp h5 h6 h7 (l.g _ _ h8)
end Go.Proofs.YtelmnkfdpnkpoaaGreatDoor
namespace Go.Proofs.YtelmnkfdpnkpoaaGreatDoor
open Go Go.Kd
set_option maxRecDepth 100000

theorem c_direction (n : Int) (w : World) (hn : 0 ≤ n ∧ n < 3) :
    Calls Tryz.prog 97 #[.int .i64 n] w (Ret fun r w' => r = .int .i64 n ∧ w = w') := by
  by_cases h1 : n = 1
  · subst h1
    refine W.enter (args := [.int .i64 1]) Tryz.func97 rfl Tryz.ntmps97 rfl rfl ?_
    refine zst ?_
    exact fin1 (.inl rfl) rfl rfl ⟨rfl, rfl⟩
  by_cases h2 : n = 2
  · subst h2
    refine W.enter (args := [.int .i64 2]) Tryz.func97 rfl Tryz.ntmps97 rfl rfl ?_
    refine zst ?_
    exact fin1 (.inl rfl) rfl rfl ⟨rfl, rfl⟩
  obtain rfl : n = 0 := by omega
  refine W.enter (args := [.int .i64 0]) Tryz.func97 rfl Tryz.ntmps97 rfl rfl ?_
  refine zst ?_
  exact fin1 (.inl rfl) rfl rfl ⟨rfl, rfl⟩


theorem c_NewPointer (T : Nat) (v : Value) (w : World) :
    Calls Tryz.prog 71 #[.iface T v] w (Ret fun r w' => ∃ b, r = pt b ∧ New w b (.cells #[.iface T v] 165) w') := by
  refine W.enter (args := [.iface T v]) Tryz.func71 rfl Tryz.ntmps71 rfl rfl ?_
  refine zst ?_
  refine WU.stp rfl rfl rfl (by first | exact stp_box rfl rfl | exact stp_box1 rfl rfl) ?_
  rintro _ w1 ⟨b1, rfl, n1⟩
  refine zst ?_
  exact fin1 (.inl rfl) rfl rfl ⟨b1, rfl, n1⟩

theorem c_NewSlice (T : Nat) (v : Value) (w : World) :
    Calls Tryz.prog 93 #[.iface T v] w (Ret fun r w' => ∃ b, r = pt b ∧ New w b (.cells #[.iface T v] 198) w') := by
  refine W.enter (args := [.iface T v]) Tryz.func93 rfl Tryz.ntmps93 rfl rfl ?_
  refine zst ?_
  refine WU.stp rfl rfl rfl (by first | exact stp_box rfl rfl | exact stp_box1 rfl rfl) ?_
  rintro _ w1 ⟨b1, rfl, n1⟩
  refine zst ?_
  exact fin1 (.inl rfl) rfl rfl ⟨b1, rfl, n1⟩

theorem c_NewArray (T : Nat) (v : Value) (n : Int) (w : World) :
    Calls Tryz.prog 94 #[.iface T v, .int .i64 n] w (Ret fun r w' => ∃ b, r = pt b ∧ New w b (.cells #[.int .i64 n, .iface T v] 187) w') := by
  refine W.enter (args := [.iface T v, .int .i64 n]) Tryz.func94 rfl Tryz.ntmps94 rfl rfl ?_
  refine zst ?_
  refine WU.stp rfl rfl rfl (by first | exact stp_box rfl rfl | exact stp_box1 rfl rfl) ?_
  rintro _ w1 ⟨b1, rfl, n1⟩
  refine zst ?_
  exact fin1 (.inl rfl) rfl rfl ⟨b1, rfl, n1⟩

theorem c_NewChan (n : Int) (T : Nat) (v : Value) (w : World) :
    Calls Tryz.prog 96 #[.int .i64 n, .iface T v] w (Ret fun r w' => ∃ b, r = pt b ∧ New w b (.cells #[.int .i64 n, .iface T v] 226) w') := by
  refine W.enter (args := [.int .i64 n, .iface T v]) Tryz.func96 rfl Tryz.ntmps96 rfl rfl ?_
  refine zst ?_
  refine WU.stp rfl rfl rfl (by first | exact stp_box rfl rfl | exact stp_box1 rfl rfl) ?_
  rintro _ w1 ⟨b1, rfl, n1⟩
  refine zst ?_
  exact fin1 (.inl rfl) rfl rfl ⟨b1, rfl, n1⟩

theorem c_NewMap (T : Nat) (v : Value) (T2 : Nat) (v2 : Value) (w : World) :
    Calls Tryz.prog 95 #[.iface T v, .iface T2 v2] w (Ret fun r w' => ∃ b, r = pt b ∧ New w b (.cells #[.iface T v, .iface T2 v2] 223) w') := by
  refine W.enter (args := [.iface T v, .iface T2 v2]) Tryz.func95 rfl Tryz.ntmps95 rfl rfl ?_
  refine zst ?_
  refine WU.stp rfl rfl rfl (by first | exact stp_box rfl rfl | exact stp_box1 rfl rfl) ?_
  rintro _ w1 ⟨b1, rfl, n1⟩
  refine zst ?_
  exact fin1 (.inl rfl) rfl rfl ⟨b1, rfl, n1⟩

theorem c_newVar (kd : Int) (pos : Int) (pk : Option Addr) (nm : ByteArray) (T : Nat) (v : Value) (w : World) :
    Calls Tryz.prog 85 #[.int .u8 kd, .int .i64 pos, .pointer pk, .string nm, .iface T v] w (Ret fun r w' => ∃ b, r = pt b ∧ New w b (.cells #[.int .i64 pos, .pointer pk, .string nm, .iface T v, .int .u8 kd, .bool false] 185) w') := by
  refine W.enter (args := [.int .u8 kd, .int .i64 pos, .pointer pk, .string nm, .iface T v]) Tryz.func85 rfl Tryz.ntmps85 rfl rfl ?_
  refine zst ?_
  refine WU.stp rfl rfl rfl (by first | exact stp_box rfl rfl | exact stp_box1 rfl rfl) ?_
  rintro _ w1 ⟨b1, rfl, n1⟩
  refine zst ?_
  exact fin1 (.inl rfl) rfl rfl ⟨b1, rfl, n1⟩
theorem c_NewParam (pos : Int) (pk : Option Addr) (nm : ByteArray) (T : Nat) (v : Value) (w : World) :
    Calls Tryz.prog 108 #[.int .i64 pos, .pointer pk, .string nm, .iface T v] w (Ret fun r w' => ∃ b, r = pt b ∧ New w b (.cells #[.int .i64 pos, .pointer pk, .string nm, .iface T v, .int .u8 4, .bool false] 185) w') := by
  refine W.enter (args := [.int .i64 pos, .pointer pk, .string nm, .iface T v]) Tryz.func108 rfl Tryz.ntmps108 rfl rfl ?_
  refine zst ?_
  refine WU.stp rfl rfl rfl (stp_call rfl (c_newVar 4 pos pk nm T v w)) ?_
  rintro _ w1 ⟨b1, rfl, n1⟩
  refine zst ?_
  exact fin1 (.inl rfl) rfl rfl ⟨b1, rfl, n1⟩
theorem c_NewVar (pos : Int) (pk : Option Addr) (nm : ByteArray) (T : Nat) (v : Value) (w : World) :
    Calls Tryz.prog 72 #[.int .i64 pos, .pointer pk, .string nm, .iface T v] w (Ret fun r w' => ∃ b, r = pt b ∧ New w b (.cells #[.int .i64 pos, .pointer pk, .string nm, .iface T v, .int .u8 1, .bool false] 185) w') := by
  refine W.enter (args := [.int .i64 pos, .pointer pk, .string nm, .iface T v]) Tryz.func72 rfl Tryz.ntmps72 rfl rfl ?_
  refine zst ?_
  refine WU.stp rfl rfl rfl (stp_call rfl (c_newVar 1 pos pk nm T v w)) ?_
  rintro _ w1 ⟨b1, rfl, n1⟩
  refine zst ?_
  exact fin1 (.inl rfl) rfl rfl ⟨b1, rfl, n1⟩
theorem c_NewField (pos : Int) (pk : Option Addr) (nm : ByteArray) (T : Nat) (v : Value) (em : Bool) (w : World) :
    Calls Tryz.prog 98 #[.int .i64 pos, .pointer pk, .string nm, .iface T v, .bool em] w (Ret fun r w' => ∃ b, r = pt b ∧ New w b (.cells #[.int .i64 pos, .pointer pk, .string nm, .iface T v, .int .u8 6, .bool em] 185) w') := by
  refine W.enter (args := [.int .i64 pos, .pointer pk, .string nm, .iface T v, .bool em]) Tryz.func98 rfl Tryz.ntmps98 rfl rfl ?_
  refine zst ?_
  refine WU.stp rfl rfl rfl (stp_call rfl (c_newVar 6 pos pk nm T v w)) ?_
  rintro _ w1 ⟨b1, rfl, n1⟩
  refine zst ?_
  have h1 : Has w1 b1 (.cells [Value.int .i64 pos, .pointer pk, .string nm, .iface T v, .int .u8 6, .bool false].toArray 185) := n1.has
  refine WU.stp0 rfl rfl (stp_store_cell rfl rfl rfl rfl) ?_
  rintro _ w2 u2
  refine zst ?_
  exact fin1 (.inl rfl) rfl rfl ⟨b1, rfl, u2.ofNew n1⟩
theorem c_NewFunc (pos : Int) (pk : Option Addr) (nm : ByteArray) (b : Nat) (w : World) :
    Calls Tryz.prog 74 #[.int .i64 pos, .pointer pk, .string nm, pt b] w (Ret fun r w' => ∃ c, r = pt c ∧ New w c (.cells #[.int .i64 pos, .pointer pk, .string nm, .iface 104 (pt b), .bool false, .bool false] 173) w') := by
  refine W.enter (args := [.int .i64 pos, .pointer pk, .string nm, pt b]) Tryz.func74 rfl Tryz.ntmps74 rfl rfl ?_
  refine zst ?_
  refine WU.stp rfl rfl rfl (by first | exact stp_box rfl rfl | exact stp_box1 rfl rfl) ?_
  rintro _ w1 ⟨b1, rfl, n1⟩
  refine zst ?_
  exact fin1 (.inl rfl) rfl rfl ⟨b1, rfl, n1⟩
theorem c_NewTypeName (pos : Int) (pk : Option Addr) (nm : ByteArray) (w : World) :
    Calls Tryz.prog 83 #[.int .i64 pos, .pointer pk, .string nm, .nilIface] w (Ret fun r w' => ∃ c, r = pt c ∧ New w c (.cells #[.int .i64 pos, .pointer pk, .string nm, .nilIface] 171) w') := by
  refine W.enter (args := [.int .i64 pos, .pointer pk, .string nm, .nilIface]) Tryz.func83 rfl Tryz.ntmps83 rfl rfl ?_
  refine zst ?_
  refine WU.stp rfl rfl rfl (by first | exact stp_box rfl rfl | exact stp_box1 rfl rfl) ?_
  rintro _ w1 ⟨b1, rfl, n1⟩
  refine zst ?_
  exact fin1 (.inl rfl) rfl rfl ⟨b1, rfl, n1⟩
theorem c_NewTuple (a : Option Addr) (n c : Nat) (w : World) :
    Calls Tryz.prog 87 #[.slice a n c] w (Ret fun r w' => ((n = 0 ∧ r = .pointer none ∧ w = w') ∨ ∃ b, 0 < n ∧ r = pt b ∧ New w b (.cells #[.slice a n c] 206) w')) := by
  refine W.enter (args := [.slice a n c]) Tryz.func87 rfl Tryz.ntmps87 rfl rfl ?_
  refine zst ?_
  cases hn : decide ((n : Int) > 0)
  · refine zst ?_
    exact fin1 (.inl rfl) rfl rfl (.inl ⟨by simp at hn; omega, rfl, rfl⟩)
  · refine zst ?_
    refine WU.stp rfl rfl rfl (by first | exact stp_box rfl rfl | exact stp_box1 rfl rfl) ?_
    rintro _ w1 ⟨b1, rfl, n1⟩
    refine zst ?_
    exact fin1 (.inl rfl) rfl rfl (.inr ⟨b1, by simp at hn; omega, rfl, n1⟩)
theorem c_NewPackage (s s' : ByteArray) (w : World) :
    Calls Tryz.prog 64 #[.string s, .string s'] w (Ret fun r w' => ∃ c, r = pt c ∧ New w c (.cells #[.string s, .string s'] 118) w') := by
  refine W.enter (args := [.string s, .string s']) Tryz.func64 rfl Tryz.ntmps64 rfl rfl ?_
  refine zst ?_
  refine WU.stp rfl rfl rfl (by first | exact stp_box rfl rfl | exact stp_box1 rfl rfl) ?_
  rintro _ w1 ⟨b1, rfl, n1⟩
  refine zst ?_
  exact fin1 (.inl rfl) rfl rfl ⟨b1, rfl, n1⟩

set_option maxHeartbeats 1000000 in
theorem c_Typ (k : Int) (w : World) (hk : 1 ≤ k ∧ k ≤ 18) :
    Calls Tryz.prog 86 #[.int .i64 k] w
      (Ret fun r w' => ∃ b i nm, r = pt b ∧ w.heap.size ≤ b ∧ Has w' b (.cells #[.int .i64 k, .int .i64 i, .string nm] 180) ∧ Ext w w') := by
  refine W.enter (args := [.int .i64 k]) Tryz.func86 rfl Tryz.ntmps86 rfl rfl ?_
  refine W.seq (W.reg (WU.yld rfl rfl rfl (yld_assign rfl) (WU.nilk ?_)))
  refine W.seq (W.reg ?_)
  refine WU.yld rfl rfl rfl (yld_build rfl rfl) ?_
  refine WU.stp rfl rfl rfl (stp_box rfl rfl) ?_
  rintro _ w1 ⟨b0, rfl, n0⟩
  refine WU.yld rfl rfl rfl (yld_build rfl rfl) ?_
  refine WU.stp rfl rfl rfl (stp_box rfl rfl) ?_
  rintro _ w2 ⟨b1, rfl, n1⟩
  refine WU.yld rfl rfl rfl (yld_build rfl rfl) ?_
  refine WU.stp rfl rfl rfl (stp_box rfl rfl) ?_
  rintro _ w3 ⟨b2, rfl, n2⟩
  refine WU.yld rfl rfl rfl (yld_build rfl rfl) ?_
  refine WU.stp rfl rfl rfl (stp_box rfl rfl) ?_
  rintro _ w4 ⟨b3, rfl, n3⟩
  refine WU.yld rfl rfl rfl (yld_build rfl rfl) ?_
  refine WU.stp rfl rfl rfl (stp_box rfl rfl) ?_
  rintro _ w5 ⟨b4, rfl, n4⟩
  refine WU.yld rfl rfl rfl (yld_build rfl rfl) ?_
  refine WU.stp rfl rfl rfl (stp_box rfl rfl) ?_
  rintro _ w6 ⟨b5, rfl, n5⟩
  refine WU.yld rfl rfl rfl (yld_build rfl rfl) ?_
  refine WU.stp rfl rfl rfl (stp_box rfl rfl) ?_
  rintro _ w7 ⟨b6, rfl, n6⟩
  refine WU.yld rfl rfl rfl (yld_build rfl rfl) ?_
  refine WU.stp rfl rfl rfl (stp_box rfl rfl) ?_
  rintro _ w8 ⟨b7, rfl, n7⟩
  refine WU.yld rfl rfl rfl (yld_build rfl rfl) ?_
  refine WU.stp rfl rfl rfl (stp_box rfl rfl) ?_
  rintro _ w9 ⟨b8, rfl, n8⟩
  refine WU.yld rfl rfl rfl (yld_build rfl rfl) ?_
  refine WU.stp rfl rfl rfl (stp_box rfl rfl) ?_
  rintro _ w10 ⟨b9, rfl, n9⟩
  refine WU.yld rfl rfl rfl (yld_build rfl rfl) ?_
  refine WU.stp rfl rfl rfl (stp_box rfl rfl) ?_
  rintro _ w11 ⟨b10, rfl, n10⟩
  refine WU.yld rfl rfl rfl (yld_build rfl rfl) ?_
  refine WU.stp rfl rfl rfl (stp_box rfl rfl) ?_
  rintro _ w12 ⟨b11, rfl, n11⟩
  refine WU.yld rfl rfl rfl (yld_build rfl rfl) ?_
  refine WU.stp rfl rfl rfl (stp_box rfl rfl) ?_
  rintro _ w13 ⟨b12, rfl, n12⟩
  refine WU.yld rfl rfl rfl (yld_build rfl rfl) ?_
  refine WU.stp rfl rfl rfl (stp_box rfl rfl) ?_
  rintro _ w14 ⟨b13, rfl, n13⟩
  refine WU.yld rfl rfl rfl (yld_build rfl rfl) ?_
  refine WU.stp rfl rfl rfl (stp_box rfl rfl) ?_
  rintro _ w15 ⟨b14, rfl, n14⟩
  refine WU.yld rfl rfl rfl (yld_build rfl rfl) ?_
  refine WU.stp rfl rfl rfl (stp_box rfl rfl) ?_
  rintro _ w16 ⟨b15, rfl, n15⟩
  refine WU.yld rfl rfl rfl (yld_build rfl rfl) ?_
  refine WU.stp rfl rfl rfl (stp_box rfl rfl) ?_
  rintro _ w17 ⟨b16, rfl, n16⟩
  refine WU.yld rfl rfl rfl (yld_build rfl rfl) ?_
  refine WU.stp rfl rfl rfl (stp_box rfl rfl) ?_
  rintro _ w18 ⟨b17, rfl, n17⟩
  refine WU.yld rfl rfl rfl (yld_build rfl rfl) ?_
  refine WU.stp rfl rfl rfl (stp_box rfl rfl) ?_
  rintro _ w19 ⟨b18, rfl, n18⟩
  refine WU.yld rfl rfl rfl (yld_build rfl rfl) ?_
  refine WU.stp rfl rfl rfl (stp_box rfl rfl) ?_
  rintro _ w20 ⟨b19, rfl, n19⟩
  refine WU.yld rfl rfl rfl (yld_build rfl rfl) ?_
  refine WU.stp rfl rfl rfl (stp_box rfl rfl) ?_
  rintro _ w21 ⟨b20, rfl, n20⟩
  refine WU.yld rfl rfl rfl (yld_build rfl rfl) ?_
  refine WU.stp rfl rfl rfl (stp_box rfl rfl) ?_
  rintro _ w22 ⟨b21, rfl, n21⟩
  refine WU.yld rfl rfl rfl (yld_build rfl rfl) ?_
  refine WU.stp rfl rfl rfl (stp_box rfl rfl) ?_
  rintro _ w23 ⟨b22, rfl, n22⟩
  refine WU.yld rfl rfl rfl (yld_build rfl rfl) ?_
  refine WU.stp rfl rfl rfl (stp_box rfl rfl) ?_
  rintro _ w24 ⟨b23, rfl, n23⟩
  refine WU.yld rfl rfl rfl (yld_build rfl rfl) ?_
  refine WU.stp rfl rfl rfl (stp_box rfl rfl) ?_
  rintro _ w25 ⟨b24, rfl, n24⟩
  refine WU.yld rfl rfl rfl (yld_build rfl rfl) ?_
  refine WU.stp rfl rfl rfl (stp_box rfl rfl) ?_
  rintro _ w26 ⟨b25, rfl, n25⟩
  refine WU.stp rfl rfl rfl (stp_buildSlice rfl rfl rfl rfl rfl) ?_
  rintro _ w27 ⟨b26, rfl, n26⟩
  have y0 : Ext w w := Ext.rfl' w
  have y1 : Ext w w1 := y0.trans n0.ext; have y2 : Ext w w2 := y1.trans n1.ext; have y3 : Ext w w3 := y2.trans n2.ext; have y4 : Ext w w4 := y3.trans n3.ext; have y5 : Ext w w5 := y4.trans n4.ext; have y6 : Ext w w6 := y5.trans n5.ext; have y7 : Ext w w7 := y6.trans n6.ext; have y8 : Ext w w8 := y7.trans n7.ext; have y9 : Ext w w9 := y8.trans n8.ext; have y10 : Ext w w10 := y9.trans n9.ext; have y11 : Ext w w11 := y10.trans n10.ext; have y12 : Ext w w12 := y11.trans n11.ext; have y13 : Ext w w13 := y12.trans n12.ext; have y14 : Ext w w14 := y13.trans n13.ext; have y15 : Ext w w15 := y14.trans n14.ext; have y16 : Ext w w16 := y15.trans n15.ext; have y17 : Ext w w17 := y16.trans n16.ext; have y18 : Ext w w18 := y17.trans n17.ext; have y19 : Ext w w19 := y18.trans n18.ext; have y20 : Ext w w20 := y19.trans n19.ext; have y21 : Ext w w21 := y20.trans n20.ext; have y22 : Ext w w22 := y21.trans n21.ext; have y23 : Ext w w23 := y22.trans n22.ext; have y24 : Ext w w24 := y23.trans n23.ext; have y25 : Ext w w25 := y24.trans n24.ext; have y26 : Ext w w26 := y25.trans n25.ext
  have hy : Ext w w27 := y26.trans n26.ext
  have z25 : Ext w26 w26 := Ext.rfl' w26; have z24 : Ext w25 w26 := n25.ext.trans z25; have z23 : Ext w24 w26 := n24.ext.trans z24; have z22 : Ext w23 w26 := n23.ext.trans z23; have z21 : Ext w22 w26 := n22.ext.trans z22; have z20 : Ext w21 w26 := n21.ext.trans z21; have z19 : Ext w20 w26 := n20.ext.trans z20; have z18 : Ext w19 w26 := n19.ext.trans z19; have z17 : Ext w18 w26 := n18.ext.trans z18; have z16 : Ext w17 w26 := n17.ext.trans z17; have z15 : Ext w16 w26 := n16.ext.trans z16; have z14 : Ext w15 w26 := n15.ext.trans z15; have z13 : Ext w14 w26 := n14.ext.trans z14; have z12 : Ext w13 w26 := n13.ext.trans z13; have z11 : Ext w12 w26 := n12.ext.trans z12; have z10 : Ext w11 w26 := n11.ext.trans z11; have z9 : Ext w10 w26 := n10.ext.trans z10; have z8 : Ext w9 w26 := n9.ext.trans z9; have z7 : Ext w8 w26 := n8.ext.trans z8; have z6 : Ext w7 w26 := n7.ext.trans z7; have z5 : Ext w6 w26 := n6.ext.trans z6; have z4 : Ext w5 w26 := n5.ext.trans z5; have z3 : Ext w4 w26 := n4.ext.trans z4; have z2 : Ext w3 w26 := n3.ext.trans z3; have z1 : Ext w2 w26 := n2.ext.trans z2
  have hx : Ext w26 w27 := n26.ext
  have l1 : w.heap.size ≤ b1 := by have h1 := n1.num; have h2 := y1.size; omega
  have l2 : w.heap.size ≤ b2 := by have h1 := n2.num; have h2 := y2.size; omega
  have l3 : w.heap.size ≤ b3 := by have h1 := n3.num; have h2 := y3.size; omega
  have l4 : w.heap.size ≤ b4 := by have h1 := n4.num; have h2 := y4.size; omega
  have l5 : w.heap.size ≤ b5 := by have h1 := n5.num; have h2 := y5.size; omega
  have l6 : w.heap.size ≤ b6 := by have h1 := n6.num; have h2 := y6.size; omega
  have l7 : w.heap.size ≤ b7 := by have h1 := n7.num; have h2 := y7.size; omega
  have l8 : w.heap.size ≤ b8 := by have h1 := n8.num; have h2 := y8.size; omega
  have l9 : w.heap.size ≤ b9 := by have h1 := n9.num; have h2 := y9.size; omega
  have l10 : w.heap.size ≤ b10 := by have h1 := n10.num; have h2 := y10.size; omega
  have l11 : w.heap.size ≤ b11 := by have h1 := n11.num; have h2 := y11.size; omega
  have l12 : w.heap.size ≤ b12 := by have h1 := n12.num; have h2 := y12.size; omega
  have l13 : w.heap.size ≤ b13 := by have h1 := n13.num; have h2 := y13.size; omega
  have l14 : w.heap.size ≤ b14 := by have h1 := n14.num; have h2 := y14.size; omega
  have l15 : w.heap.size ≤ b15 := by have h1 := n15.num; have h2 := y15.size; omega
  have l16 : w.heap.size ≤ b16 := by have h1 := n16.num; have h2 := y16.size; omega
  have l17 : w.heap.size ≤ b17 := by have h1 := n17.num; have h2 := y17.size; omega
  have l18 : w.heap.size ≤ b18 := by have h1 := n18.num; have h2 := y18.size; omega
  have hrow := n26.has
  clear y0 y1 y2 y3 y4 y5 y6 y7 y8 y9 y10 y11 y12 y13 y14 y15 y16 y17 y18 y19 y20 y21 y22 y23 y24 y25 y26 n26
  have hc : k = 1 ∨ k = 2 ∨ k = 3 ∨ k = 4 ∨ k = 5 ∨ k = 6 ∨ k = 7 ∨ k = 8 ∨ k = 9 ∨ k = 10 ∨ k = 11 ∨ k = 12 ∨ k = 13 ∨ k = 14 ∨ k = 15 ∨ k = 16 ∨ k = 17 ∨ k = 18 := by omega
  rcases hc with rfl | rfl | rfl | rfl | rfl | rfl | rfl | rfl | rfl | rfl | rfl | rfl | rfl | rfl | rfl | rfl | rfl | rfl
  all_goals
    refine zst ?_
    refine fin1 (.inl rfl) rfl rfl ?_
  · exact ⟨b1, _, _, rfl, l1, n1.has.ext' (z1.trans hx), hy⟩
  · exact ⟨b2, _, _, rfl, l2, n2.has.ext' (z2.trans hx), hy⟩
  · exact ⟨b3, _, _, rfl, l3, n3.has.ext' (z3.trans hx), hy⟩
  · exact ⟨b4, _, _, rfl, l4, n4.has.ext' (z4.trans hx), hy⟩
  · exact ⟨b5, _, _, rfl, l5, n5.has.ext' (z5.trans hx), hy⟩
  · exact ⟨b6, _, _, rfl, l6, n6.has.ext' (z6.trans hx), hy⟩
  · exact ⟨b7, _, _, rfl, l7, n7.has.ext' (z7.trans hx), hy⟩
  · exact ⟨b8, _, _, rfl, l8, n8.has.ext' (z8.trans hx), hy⟩
  · exact ⟨b9, _, _, rfl, l9, n9.has.ext' (z9.trans hx), hy⟩
  · exact ⟨b10, _, _, rfl, l10, n10.has.ext' (z10.trans hx), hy⟩
  · exact ⟨b11, _, _, rfl, l11, n11.has.ext' (z11.trans hx), hy⟩
  · exact ⟨b12, _, _, rfl, l12, n12.has.ext' (z12.trans hx), hy⟩
  · exact ⟨b13, _, _, rfl, l13, n13.has.ext' (z13.trans hx), hy⟩
  · exact ⟨b14, _, _, rfl, l14, n14.has.ext' (z14.trans hx), hy⟩
  · exact ⟨b15, _, _, rfl, l15, n15.has.ext' (z15.trans hx), hy⟩
  · exact ⟨b16, _, _, rfl, l16, n16.has.ext' (z16.trans hx), hy⟩
  · exact ⟨b17, _, _, rfl, l17, n17.has.ext' (z17.trans hx), hy⟩
  · exact ⟨b18, _, _, rfl, l18, n18.has.ext' (z18.trans hx), hy⟩
end Go.Proofs.YtelmnkfdpnkpoaaGreatDoor
namespace Go.Kd
variable {P : Program} {e : Env} {w : World} {d : Option Tmp} {ty t t2 : TypeId} {pos : String} {aft : Array Edge} {g : Option (Nat × Bool)} {x y z : Operand}
theorem yld_conv_int {k k2 : IntKind} {n : Int} {D : TypeDesc} [h1 : Und P t D] [h2 : Und P t2 (.int k)] (hx : ev e x = some (.int k2 n)) : Yld P e ⟨d, .convert t t2 x, ty, pos, aft, g⟩ (.int k (k.wrap n)) w := ⟨fun ρ hρ w' _ => by
  have e1 := h1.at_
  have e2 := h2.at_
  simp only [execOp, hρ x _ hx, Go.convert, Sem.run_bind, run_underlying e1, run_underlying e2, Result.andThen_ok]
  cases D <;> rfl⟩
theorem yld_conv_u8i32 {c : UInt8} {D : TypeDesc} [h1 : Und P t D] [h2 : Und P t2 (.int .i32)] (hx : ev e x = some (.int .u8 (c.toNat : Int))) : Yld P e ⟨d, .convert t t2 x, ty, pos, aft, g⟩ (.int .i32 (c.toNat : Int)) w := by
  have := yld_conv_int (P := P) (w := w) (d := d) (t := t) (t2 := t2) (ty := ty) (pos := pos) (aft := aft) (g := g) (D := D) hx
  have hc := c.toNat_lt
  rwa [IntWalk.i32_in _ (by omega)] at this
theorem yld_conv_i32u32 {c : UInt8} {D : TypeDesc} [h1 : Und P t D] [h2 : Und P t2 (.int .u32)] (hx : ev e x = some (.int .i32 (c.toNat : Int))) : Yld P e ⟨d, .convert t t2 x, ty, pos, aft, g⟩ (.int .u32 (c.toNat : Int)) w := by
  have := yld_conv_int (P := P) (w := w) (d := d) (t := t) (t2 := t2) (ty := ty) (pos := pos) (aft := aft) (g := g) (D := D) hx
  have hc := c.toNat_lt
  rwa [IntWalk.u32_in _ (by omega)] at this
theorem yld_conv_i32u8 {c : UInt8} {D : TypeDesc} [h1 : Und P t D] [h2 : Und P t2 (.int .u8)] (hx : ev e x = some (.int .i32 (c.toNat : Int))) : Yld P e ⟨d, .convert t t2 x, ty, pos, aft, g⟩ (.int .u8 (c.toNat : Int)) w := by
  have := yld_conv_int (P := P) (w := w) (d := d) (t := t) (t2 := t2) (ty := ty) (pos := pos) (aft := aft) (g := g) (D := D) hx
  have hc := c.toNat_lt
  rwa [IntWalk.u8_in _ (by omega)] at this
/-- an index into a fixed row -/
theorem yld_indexAddr_arr {el m : Nat} {b : Nat} {k : IntKind} {i : Nat} [h : Und P t (.array m el)] [hi : Inf P el 1] (hx : ev e x = some (.pointer (some ⟨b, 0, none⟩))) (hy : ev e y = some (.int k (i : Int)))
    (h1 : i < m) : Yld P e ⟨d, .indexAddr t x y, ty, pos, aft, g⟩ (.pointer (some ⟨b, i, none⟩)) w := ⟨fun ρ hρ w' _ => by
  obtain ⟨j, h2, h3⟩ := hi.at_
  have hadd : (⟨b, 0, none⟩ : Addr).add i = ⟨b, i, none⟩ := by rw [Addr.add_mid, Nat.zero_add]
  simp [execOp, hρ x _ hx, hρ y _ hy, Instr.indexAt, asIntOf, run_underlying h.at_, h1, sizeOf, typeInfo, h2, h3, hadd, Instr.sureAddr]⟩
theorem yld_add_str {a b : ByteArray} (hs : a.size + b.size ≤ 9223372036854775807) (hx : ev e x = some (.string a)) (hy : ev e y = some (.string b)) : Yld P e ⟨d, .binOp .add t x y t2, ty, pos, aft, g⟩ (.string (a ++ b)) w := ⟨fun ρ hρ w' _ =>
  run_binOp_plain (hρ x _ hx) (hρ y _ hy) eqGuard_str (by
    have : (a.size : Int) + b.size ≤ 9223372036854775807 := by omega
    simp [binOp, Op.stringOp, this])⟩
theorem app_toList (a b : ByteArray) : (a ++ b).toList = a.toList ++ b.toList := by simp [Lib.toList_data]
theorem eq_of_toList {a b : ByteArray} (h : a.toList = b.toList) : a = b := by
  rw [Lib.toList_data, Lib.toList_data] at h
  obtain ⟨⟨a⟩⟩ := a
  obtain ⟨⟨b⟩⟩ := b
  simp at h
  rw [h]
theorem fin2 {P : Program} {fn : Func} {R : Value → World → Prop} {x : Exit} {e : Env} {w : World} {t t' : Nat} {v v' : Value} (hx : x = .ret ∨ x = .normal) (hr : fn.results = #[.tmp t, .tmp t']) (hv : lk e t = some v) (hv' : lk e t' = some v') (h : R (.tuple #[v, v']) w) :
    fin P fn (Ret R) x [] e w := by
  have : RV P e w fn.results.toList [v, v'] := by rw [hr]; exact .tmp hv (.tmp hv' .nil)
  rcases hx with rfl | rfl <;> exact ⟨rfl, [v, v'], this, _, rfl, h⟩
instance Ext.drewN (w : World) (q : Nat) : Ext w (w.drewN q) := ⟨⟨rfl, rfl, rfl, Nat.le_refl _, fun _ _ => rfl⟩⟩
theorem drewN_drewN (w : World) (a b : Nat) : (w.drewN a).drewN b = w.drewN (a + b) := by unfold World.drewN; simp [Nat.add_assoc]
/-- a drawn region, the world told to the sign -/
theorem W.regX {n : Nat} {Q : Post} {D : List Deferred} [hm : Mixed P] {id : Nat} {l : List Oper} (L : List (Nat × Kn)) (hs : Region.noSelect l.toArray = true) (hL : ordOk .any l.toArray L (Array.replicate l.length false) = true)
    (hlen : L.length = l.length) (h : WD P n l Q L D e (w.drewN 1)) : W P n (.region id l.toArray true) Q D e w := ⟨fun a ha => by
  refine wp_region_any hm.mixed (wpAny_of_wpE _ _ _ _ ?_)
  have := wpE_of_wpL (md := .any) (Q := post n Q) (fun c a w hq => hq) hs L (Array.replicate l.length false) a _ (fun k ok _ h => by simp [Array.getD] at h) hL (h.out a ha)
  rw [hlen, List.size_toArray] at *
  exact this⟩
/-- a function that the model gives -/
theorem stp_extern {k : FuncId} {args : List Operand} {tys : Array TypeId} {vs : List Value} {R : Value → World → Prop} {fn : Go.Func} {ex : Array Value → Sem Value} (hf : P.funcs[k]? = some fn) (hname : (fn.name == "runtime.NumGoroutine") = false)
    (hb : fn.body.isNone = true) (hn : Extern.findNext fn = none) (he : Extern.find fn = some ex) (ha : evs e args = some vs) {v : Value} {w' : World} (hr : (ex vs.toArray).run P w = .ok v w') (h : R v w') :
    Stp P e ⟨d, .call ⟨.value (.func k), args.toArray, tys⟩, ty, pos, aft, g⟩ w R := ⟨fun ρ hρ => by
  have hv : args.toArray.map ρ = vs.toArray := by rw [← evs_spec hρ args vs ha]; simp
  have h1 : ρ (.func k) = .func (.func k) #[] #[] := hρ _ _ rfl
  have h2 := run_callFunc_extern hf hname hb hn he vs.toArray w
  simp only [execOp, resolve, hv, h1, Deferred.ofValue, invoke, Sem.run_bind, Sem.run_pure, Result.andThen_ok, Array.append_empty, Array.empty_append]
  rw [h2, hr]
  exact h⟩
end Go.Kd
namespace Go.Proofs.YtelmnkfdpnkpoaaGreatDoor
open Go Go.Kd
set_option maxRecDepth 100000

abbrev gP : Nat := 5
/-- the table of properties, as far as it is read -/
structure Prp (w : World) : Prop where
  ex : ∃ cs t fz, w.heap[gP]? = some (.cells cs t fz) ∧ ∀ n, n < 128 → ∃ v : Nat, cs[n]? = some (.int .u8 (v : Int)) ∧ v < 256 ∧ (v &&& 96 = 32 ↔ 65 ≤ n ∧ n ≤ 90)
theorem Prp.same {w w' : World} (h : Prp w) (e : w'.heap[gP]? = w.heap[gP]?) : Prp w' := by
  obtain ⟨cs, t, fz, h1, h2⟩ := h.ex
  exact ⟨cs, t, fz, e.trans h1, h2⟩
theorem Prp.lt {w : World} (h : Prp w) : gP < w.heap.size := by
  obtain ⟨cs, t, fz, h1, h2⟩ := h.ex
  exact (Array.getElem?_eq_some_iff.1 h1).1
theorem Prp.ext {w w' : World} (x : Ext w w') (h : Prp w) : Prp w' := h.same (x.below.block _ h.lt)
theorem Prp.sta {K : Cfg} {l : Nat} {w w' : World} (x : Sta K l w w') (hK : gP < K.N) (h : Prp w) : Prp w' := h.same (x.old _ hK h.lt)
theorem and96 : ∀ v : Fin 256, (IntKind.u8.wrap ((BitVec.ofInt 8 (v.val : Int) &&& BitVec.ofInt 8 96).toNat : Int) == 32) = decide (v.val &&& 96 = 32) := by decide +kernel

theorem c_DecodeRune (s : ByteArray) (c : UInt8) (l : List UInt8) (w : World) (hs : s.toList = c :: l) (hc : c.toNat < 128) :
    Calls Tryz.prog 168 #[.string s] w (Ret fun r w' => r = .tuple #[.int .i32 c.toNat, .int .i64 1] ∧ w = w') := by
  refine W.enter (args := [.string s]) Tryz.func168 rfl Tryz.ntmps168 rfl rfl ?_
  refine zst ?_
  rw [hs, E0_list, show (!(c :: l == ([] : List UInt8))) = true from rfl]
  refine zst ?_
  refine WU.yld rfl rfl rfl (yld_index_str (i := 0) rfl rfl (by rw [hs]; rfl)) ?_
  refine zst ?_
  rw [show decide ((c.toNat : Int) < 128) = true from by simp; omega]
  refine zst ?_
  refine WU.yld rfl rfl rfl (yld_index_str (i := 0) rfl rfl (by rw [hs]; rfl)) ?_
  refine WU.yld rfl rfl rfl (yld_conv_u8i32 rfl) ?_
  refine zst ?_
  exact fin2 (.inl rfl) rfl rfl rfl ⟨rfl, rfl⟩
theorem c_IsUpper (c : UInt8) (w : World) (hp : Prp w) (hc : c.toNat < 128) :
    Calls Tryz.prog 192 #[.int .i32 c.toNat] w (Ret fun r w' => r = .bool (decide (65 ≤ c.toNat) && decide (c.toNat ≤ 90)) ∧ w = w') := by
  obtain ⟨cs, tt, fz, h1, h2⟩ := hp.ex
  obtain ⟨v, h3, h4, h5⟩ := h2 _ hc
  refine W.enter (args := [.int .i32 c.toNat]) Tryz.func192 rfl Tryz.ntmps192 rfl rfl ?_
  refine zst ?_
  refine WU.yld rfl rfl rfl (yld_conv_i32u32 rfl) ?_
  refine zst ?_
  rw [show decide ((c.toNat : Int) ≤ 255) = true from by simp; omega]
  refine zst ?_
  refine WU.yld rfl rfl rfl (yld_conv_i32u8 rfl) ?_
  refine WU.yld rfl rfl rfl (yld_indexAddr_arr (i := c.toNat) rfl rfl (by omega)) ?_
  refine WU.yld rfl rfl rfl (yld_load_c (v := .int .u8 (v : Int)) rfl (by unfold World.cell?; rw [h1]; exact h3)) ?_
  refine WU.yld rfl rfl rfl (yld_and rfl rfl) ?_
  refine zst ?_
  refine fin1 (.inl rfl) rfl rfl ⟨congrArg Value.bool ?_, rfl⟩
  refine (and96 ⟨v, h4⟩).trans ?_
  simp only [h5, Bool.decide_and]
theorem c_expo (s : ByteArray) (c : UInt8) (l : List UInt8) (w : World) (hp : Prp w) (hs : s.toList = c :: l) (hc : c.toNat < 128) :
    Calls Tryz.prog 174 #[.string s] w (Ret fun r w' => r = .bool (expo s.toList) ∧ w = w') := by
  refine W.enter (args := [.string s]) Tryz.func174 rfl Tryz.ntmps174 rfl rfl ?_
  refine zst ?_
  refine WU.stp rfl rfl rfl (stp_call rfl (c_DecodeRune s c l w hs hc)) ?_
  rintro _ _ ⟨rfl, rfl⟩
  refine zst ?_
  refine WU.stp rfl rfl rfl (stp_call rfl (c_IsUpper c w hp hc)) ?_
  rintro _ _ ⟨rfl, rfl⟩
  refine zst ?_
  exact fin1 (.inl rfl) rfl rfl ⟨by rw [hs]; rfl, rfl⟩

/-! ### Objects -/
/-- what every object holds -/
def ObjV (w : World) (b : Nat) (pk : Value) (nm : ByteArray) (v : Value) : Prop := ∃ tt r, Has w b (.cells (Value.int .i64 0 :: pk :: .string nm :: v :: r).toArray tt)
theorem FuncV.obj {w : World} {b : Nat} {pk : Value} {nm : ByteArray} {v : Value} (h : FuncV w b pk nm v) : ObjV w b pk nm v := ⟨_, _, h⟩
theorem VarV.obj {w : World} {b : Nat} {pk : Value} {nm : ByteArray} {v : Value} {kd : Int} {em : Bool} (h : VarV w b pk nm v kd em) : ObjV w b pk nm v := ⟨_, _, h⟩
/-- the package of an object: it is there where the name is not exported -/
structure PkV (w : World) (nm : ByteArray) (pk : Value) (path : ByteArray) : Prop where
  ptr : ∃ a, pk = .pointer a
  at_ : expo nm.toList = false → ∃ c n, pk = pt c ∧ Has w c (.cells #[.string path, .string n] 118) ∧ path.toList ≠ []
theorem PkV.ext {w w' : World} (x : Ext w w') {nm : ByteArray} {pk : Value} {path : ByteArray} (h : PkV w nm pk path) : PkV w' nm pk path := ⟨h.ptr, fun he => by
  obtain ⟨c, n, h1, h2, h3⟩ := h.at_ he
  exact ⟨c, n, h1, h2.ext' x, h3⟩⟩
theorem PkV.sta {K : Cfg} {l : Nat} {w w' : World} (x : Sta K l w w') {nm : ByteArray} {pk : Value} {path : ByteArray} (h : PkV w nm pk path) : PkV w' nm pk path := ⟨h.ptr, fun he => by
  obtain ⟨c, n, h1, h2, h3⟩ := h.at_ he
  exact ⟨c, n, h1, Has.sta x h2, h3⟩⟩
def Asc (s : ByteArray) : Prop := ∃ c l, s.toList = c :: l ∧ c.toNat < 128
theorem letter_lt {c : UInt8} (h : letter c = true) : c.toNat < 128 := by
  have : ∀ n : Fin 256, letter (UInt8.ofNat n.val) = true → n.val < 128 := by decide +kernel
  have h2 := this ⟨c.toNat, c.toNat_lt⟩ (by simpa using h)
  exact h2
theorem Ident.asc {s : ByteArray} (h : Ident s.toList) : Asc s := by
  cases hs : s.toList with
  | nil => exact absurd hs h.ne
  | cons c l =>
    refine ⟨c, l, hs, ?_⟩
    rcases h.at_ with h1 | h1
    · rw [hs] at h1
      cases h1
      decide
    · rw [hs] at h1
      rcases h1 0 c rfl with h2 | ⟨h2, _⟩
      · exact letter_lt h2
      · exact absurd rfl h2
def idS (nm path : List UInt8) : List UInt8 := if expo nm then nm else path ++ 46 :: nm

set_option maxHeartbeats 1000000 in
theorem c_Id (b : Nat) (pk : Value) (nm path : ByteArray) (v : Value) (w : World) (hp : Prp w) (ho : ObjV w b pk nm v) (hk : PkV w nm pk path) (ha : Asc nm) (hz : path.size + nm.size ≤ 4611686018427387904) :
    Calls Tryz.prog 125 #[pt b] w (Ret fun r w' => (∃ s : ByteArray, r = .string s ∧ s.toList = idS nm.toList path.toList) ∧ Ext w w') := by
  obtain ⟨tt, r, ho⟩ := ho
  obtain ⟨a, rfl⟩ := hk.ptr
  obtain ⟨c, l, hs, hc⟩ := ha
  have key : ∀ w2, Ext w w2 → Calls Tryz.prog 155 #[.pointer a, .string nm] w2 (Ret fun r w' => (∃ s : ByteArray, r = .string s ∧ s.toList = idS nm.toList path.toList) ∧ w2 = w') := fun w2 hx => by
    refine W.enter (args := [.pointer a, .string nm]) Tryz.func155 rfl Tryz.ntmps155 rfl rfl ?_
    refine zst ?_
    refine WU.stp rfl rfl rfl (stp_call rfl (c_expo nm c l w2 (hp.ext hx) hs hc)) ?_
    rintro _ _ ⟨rfl, rfl⟩
    cases he : expo nm.toList
    · obtain ⟨cp, n, h1, h2, h3⟩ := (hk.ext hx).at_ he
      cases h1
      refine zst ?_
      rw [E0_list, show (!(path.toList == ([] : List UInt8))) = true from by cases hpt : path.toList with | nil => exact absurd hpt h3 | cons a l => rfl]
      refine zst ?_
      refine WU.yld rfl rfl rfl (yld_add_str (by show path.size + 1 ≤ _; omega) rfl rfl) ?_
      refine zst ?_
      refine WU.yld rfl rfl rfl (yld_add_str (by rw [ByteArray.size_append]; show path.size + 1 + nm.size ≤ _; omega) rfl rfl) ?_
      refine zst ?_
      refine fin1 (.inl rfl) rfl rfl ⟨⟨_, rfl, ?_⟩, rfl⟩
      rw [app_toList, app_toList]
      unfold idS
      rw [he]
      simp only [Bool.false_eq_true, if_false, List.append_assoc]
      rw [show (⟨#[46]⟩ : ByteArray).toList = [46] from by rw [Lib.toList_data]]
      rfl
    · refine zst ?_
      refine fin1 (.inl rfl) rfl rfl ⟨⟨_, rfl, ?_⟩, rfl⟩
      unfold idS
      rw [he, if_pos rfl]
  refine W.enter (args := [pt b]) Tryz.func125 rfl Tryz.ntmps125 rfl rfl ?_
  refine zst ?_
  refine W.regD [(0, .q), (1, .q), (2, .q), (3, .q), (4, .q), (5, .q), (6, .q), (7, .q), (8, .l), (9, .q)] (by kernel_rfl) (by kernel_rfl) rfl ?_
  intro w2 x2 _
  refine zsd ?_
  refine WD.stp rfl rfl rfl rfl (stp_call rfl (key w2 x2)) ?_
  rintro _ _ ⟨⟨s, rfl, hs2⟩, rfl⟩
  refine ⟨by first | assumption | exact Ext.rfl' _ | infer_instance, ?_⟩
  refine zsd ?_
  refine zst ?_
  exact fin1 (.inl rfl) rfl rfl ⟨⟨s, rfl, hs2⟩, x2⟩

theorem c_CompareString (a b : ByteArray) (w : World) :
    Calls Tryz.prog 213 #[.string a, .string b] w (Ret fun r w' => r = .int .i64 (Lib.compareBytes a.toList b.toList) ∧ w = w') := by
  refine W.enter (args := [.string a, .string b]) Tryz.func213 rfl Tryz.ntmps213 rfl rfl ?_
  refine zst ?_
  refine WU.stp rfl rfl rfl (stp_extern (R := fun v w' => v = .int .i64 (Lib.compareBytes a.toList b.toList) ∧ w' = w) Tryz.func217 (by kernel_rfl) (by kernel_rfl) (by kernel_rfl) (ex := Extern.BytealgCompare.compare) (by kernel_rfl) rfl (Lib.run_compareString a b w) ⟨by rw [Lib.toList_data, Lib.toList_data], rfl⟩) ?_
  rintro _ _ ⟨rfl, rfl⟩
  refine zst ?_
  exact fin1 (.inl rfl) rfl rfl ⟨rfl, rfl⟩
theorem c_Compare (a b : ByteArray) (w : World) :
    Calls Tryz.prog 206 #[.string a, .string b] w (Ret fun r w' => r = .int .i64 (Lib.compareBytes a.toList b.toList) ∧ w = w') := by
  refine W.enter (args := [.string a, .string b]) Tryz.func206 rfl Tryz.ntmps206 rfl rfl ?_
  refine zst ?_
  refine WU.stp rfl rfl rfl (stp_call rfl (c_CompareString a b w)) ?_
  rintro _ _ ⟨rfl, rfl⟩
  refine zst ?_
  exact fin1 (.inl rfl) rfl rfl ⟨rfl, rfl⟩
/-- the order of objects -/
def cmpN (s p s' p' : List UInt8) : Int :=
  if expo s != expo s' then (if expo s then -1 else 1) else if !(s == s') then Lib.compareBytes s s' else if !expo s then Lib.compareBytes p p' else 0
theorem compareBytes_self : ∀ s, Lib.compareBytes s s = 0
  | [] => rfl
  | a :: s => by
    have h : ¬ a < a := UInt8.lt_irrefl a
    unfold Lib.compareBytes
    rw [if_neg h, if_neg h]
    exact compareBytes_self s
theorem cmpN_self (s p : List UInt8) : cmpN s p s p = 0 := by
  unfold cmpN
  simp [compareBytes_self]
set_option maxHeartbeats 1000000 in
theorem c_cmp (b b' : Nat) (pk pk' : Value) (nm nm' path path' : ByteArray) (v v' : Value) (w : World) (hp : Prp w) (ho : ObjV w b pk nm v) (ho' : ObjV w b' pk' nm' v') (hk : PkV w nm pk path) (hk' : PkV w nm' pk' path') (ha : Asc nm) (ha' : Asc nm')
    (he : b = b' → path = path') :
    Calls Tryz.prog 180 #[pt b, pt b'] w (Ret fun r w' => r = .int .i64 (cmpN nm.toList path.toList nm'.toList path'.toList) ∧ ∃ q, w' = w.drewN q) := by
  obtain ⟨tt, r, ho⟩ := ho
  obtain ⟨tt', r', ho'⟩ := ho'
  obtain ⟨c, l, hs, hc⟩ := ha
  obtain ⟨c', l', hs', hc'⟩ := ha'
  refine W.enter (args := [pt b, pt b']) Tryz.func180 rfl Tryz.ntmps180 rfl rfl ?_
  refine zst ?_
  refine WU.yld rfl rfl rfl (yld_eql_ptr rfl rfl) ?_
  refine zst ?_
  by_cases hb : b = b'
  · subst hb
    rw [show decide ((⟨b, 0, none⟩ : Addr) = ⟨b, 0, none⟩) = true from by simp]
    refine zst ?_
    refine fin1 (.inl rfl) rfl rfl ⟨?_, 0, rfl⟩
    have := ho.at_.symm.trans ho'.at_
    simp only [Option.some.injEq, Obj.cells.injEq] at this
    have h1 := congrArg (fun a => a.toList[2]?) this.1
    simp at h1
    subst h1
    rw [← he rfl, cmpN_self]
  · rw [show decide ((⟨b, 0, none⟩ : Addr) = ⟨b', 0, none⟩) = false from decide_eq_false (fun h => hb (congrArg Addr.block h))]
    refine zst ?_
    refine WU.stp rfl rfl rfl (stp_call rfl (c_expo nm c l w hp hs hc)) ?_
    rintro _ _ ⟨rfl, rfl⟩
    refine zst ?_
    refine WU.stp rfl rfl rfl (stp_call rfl (c_expo nm' c' l' w hp hs' hc')) ?_
    rintro _ _ ⟨rfl, rfl⟩
    refine zst ?_
    unfold cmpN
    cases h1 : expo nm.toList <;> cases h2 : expo nm'.toList
    · refine zst ?_
      refine W.regX [(0, .q), (1, .q), (2, .q), (3, .q), (4, .q), (5, .q), (6, .q), (7, .q), (8, .q)] (by kernel_rfl) (by kernel_rfl) rfl ?_
      refine zsd ?_
      refine zst ?_
      cases h3 : (nm.toList == nm'.toList)
      · refine zst ?_
        refine W.regX [(0, .q), (1, .q), (2, .q), (3, .q), (4, .q), (5, .q), (6, .q), (7, .q), (8, .l), (9, .q)] (by kernel_rfl) (by kernel_rfl) rfl ?_
        refine zsd ?_
        refine WD.stp rfl rfl rfl rfl (stp_call rfl (c_Compare nm nm' ((w.drewN 1).drewN 1))) ?_
        rintro _ _ ⟨rfl, rfl⟩
        refine ⟨by first | assumption | exact Ext.rfl' _ | infer_instance, ?_⟩
        refine zsd ?_
        refine zst ?_
        exact fin1 (.inl rfl) rfl rfl ⟨rfl, 2, drewN_drewN w 1 1⟩
      · obtain ⟨cp, n, rfl, k2, k3⟩ := hk.at_ h1
        obtain ⟨cp', n', rfl, k2', k3'⟩ := hk'.at_ h2
        refine zst ?_
        refine W.regX [(0, .q), (1, .q), (2, .q), (3, .q), (4, .q), (5, .q), (6, .q), (7, .q), (8, .q), (9, .q), (10, .q), (11, .q), (12, .q), (13, .q), (14, .l), (15, .q)] (by kernel_rfl) (by kernel_rfl) rfl ?_
        refine zsd ?_
        refine WD.stp rfl rfl rfl rfl (stp_call rfl (c_Compare path path' ((w.drewN 1).drewN 1))) ?_
        rintro _ _ ⟨rfl, rfl⟩
        refine ⟨by first | assumption | exact Ext.rfl' _ | infer_instance, ?_⟩
        refine zsd ?_
        refine zst ?_
        exact fin1 (.inl rfl) rfl rfl ⟨rfl, 2, drewN_drewN w 1 1⟩
    · refine zst ?_
      exact fin1 (.inl rfl) rfl rfl ⟨rfl, 0, rfl⟩
    · refine zst ?_
      exact fin1 (.inl rfl) rfl rfl ⟨rfl, 0, rfl⟩
    · refine zst ?_
      refine W.regX [(0, .q), (1, .q), (2, .q), (3, .q), (4, .q), (5, .q), (6, .q), (7, .q), (8, .q)] (by kernel_rfl) (by kernel_rfl) rfl ?_
      refine zsd ?_
      refine zst ?_
      cases h3 : (nm.toList == nm'.toList)
      · refine zst ?_
        refine W.regX [(0, .q), (1, .q), (2, .q), (3, .q), (4, .q), (5, .q), (6, .q), (7, .q), (8, .l), (9, .q)] (by kernel_rfl) (by kernel_rfl) rfl ?_
        refine zsd ?_
        refine WD.stp rfl rfl rfl rfl (stp_call rfl (c_Compare nm nm' ((w.drewN 1).drewN 1))) ?_
        rintro _ _ ⟨rfl, rfl⟩
        refine ⟨by first | assumption | exact Ext.rfl' _ | infer_instance, ?_⟩
        refine zsd ?_
        refine zst ?_
        exact fin1 (.inl rfl) rfl rfl ⟨rfl, 2, drewN_drewN w 1 1⟩
      · refine zst ?_
        exact fin1 (.inl rfl) rfl rfl ⟨rfl, 1, rfl⟩
theorem c_compareFunc (b b' : Nat) (pk pk' : Value) (nm nm' path path' : ByteArray) (v v' : Value) (w : World) (hp : Prp w) (ho : ObjV w b pk nm v) (ho' : ObjV w b' pk' nm' v') (hk : PkV w nm pk path) (hk' : PkV w nm' pk' path') (ha : Asc nm) (ha' : Asc nm')
    (he : b = b' → path = path') :
    Calls Tryz.prog 158 #[pt b, pt b'] w (Ret fun r w' => r = .int .i64 (cmpN nm.toList path.toList nm'.toList path'.toList) ∧ ∃ q, w' = w.drewN q) := by
  have x2 : Ext w (w.drewN 1) := inferInstance
  refine W.enter (args := [pt b, pt b']) Tryz.func158 rfl Tryz.ntmps158 rfl rfl ?_
  refine zst ?_
  refine W.regX [(0, .q), (1, .q), (2, .q), (3, .q), (4, .q), (5, .q), (6, .l), (7, .q)] (by kernel_rfl) (by kernel_rfl) rfl ?_
  have ho2 : ObjV (w.drewN 1) b pk nm v := by obtain ⟨tt, r, ho⟩ := ho; exact ⟨tt, r, ho.ext' x2⟩
  have ho2' : ObjV (w.drewN 1) b' pk' nm' v' := by obtain ⟨tt, r, ho⟩ := ho'; exact ⟨tt, r, ho.ext' x2⟩
  obtain ⟨tt, r, hob⟩ := ho2
  obtain ⟨tt', r', hob'⟩ := ho2'
  refine zsd ?_
  refine WD.stp rfl rfl rfl rfl (stp_call rfl (c_cmp b b' pk pk' nm nm' path path' v v' (w.drewN 1) (hp.ext x2) ⟨tt, r, hob⟩ ⟨tt', r', hob'⟩ (hk.ext x2) (hk'.ext x2) ha ha' he)) ?_
  rintro _ _ ⟨rfl, q, rfl⟩
  refine ⟨by first | assumption | exact Ext.rfl' _ | infer_instance, ?_⟩
  refine zsd ?_
  refine zst ?_
  exact fin1 (.inl rfl) rfl rfl ⟨rfl, 1 + q, drewN_drewN w 1 q⟩
end Go.Proofs.YtelmnkfdpnkpoaaGreatDoor
namespace Go.Kd
variable {P : Program} {e : Env} {w : World} {d : Option Tmp} {ty t t2 : TypeId} {pos : String} {aft : Array Edge} {g : Option (Nat × Bool)} {x y z : Operand}

theorem Zv.run {v : Value} [h : Zv P t v] : (zeroValue t).run P w = .ok v w := by
  obtain ⟨i, h1, h2⟩ := h.at_
  simp only [zeroValue, typeInfo, program, bind, Sem.bind, Sem.run, h1, pure, h2]

theorem run_getMap {r : Nat} {es : Array MapEntry} {c : Nat} (h : w.heap[r]? = some (.map es c)) : (getObj r).run P w = .ok (.map es c) w := by
  simp [getObj, Sem.run, h]
theorem run_setMap {r : Nat} {es : Array MapEntry} {c : Nat} (o : Obj) (h : w.heap[r]? = some (.map es c)) : (setObj r o).run P w = .ok () { w with heap := w.heap.setIfInBounds r o } := by
  simp [setObj, Sem.run, h]

theorem run_checkKey_ifp {key T : TypeId} {ms : Array (String × TypeId)} [h : Und P key (.interface ms)] [hp : PtrT P T] [hc : CmpT P T] {emp : Bool} {a : Option Addr} :
    (Instr.checkKey emp 10000 key (.iface T (.pointer a))).run P w = .ok () w := by
  obtain ⟨i, h1, h2⟩ := hc.at_
  obtain ⟨el, j, h3, _, _⟩ := hp.at_
  have hk : ∀ k : Nat, (Instr.checkKey emp (k + 1 + 1) key (.iface T (.pointer a))).run P w = .ok () w := fun k => by
    rw [Instr.checkKey]
    simp only [Sem.run_bind, run_underlying h.at_, Result.andThen_ok]
    rw [Instr.checkKey]
    simp [typeInfo, h1, h2, Sem.run_bind, run_underlying h3]
  exact hk 9998

/-- other keys: pointers, none of them this one -/
def NoKey (w : World) (T : TypeId) (a : Addr) (es : List MapEntry) : Prop :=
  ∀ m ∈ es, ∃ T' a', m.key = .iface T' (.pointer (some a')) ∧ Pl w a'.block ∧ (T' = T → a' ≠ a)

theorem NoKey.ext {w w' : World} (hx : Ext w w') {T : TypeId} {a : Addr} {es : List MapEntry} (h : NoKey w T a es) : NoKey w' T a es := fun m hm => by
  obtain ⟨T', a', h1, h2, h3⟩ := h m hm
  exact ⟨T', a', h1, h2.ext' hx, h3⟩

theorem run_findKey_no {key T : TypeId} {ms : Array (String × TypeId)} [h : Und P key (.interface ms)] [hp : PtrT P T] [hc : CmpT P T] {a : Addr} (ha : Pl w a.block) {es : List MapEntry} (hn : NoKey w T a es) :
    (Instr.findKey key (.iface T (.pointer (some a))) es).run P w = .ok none w := by
  have hask : ∀ (es : List MapEntry) (i : Nat), NoKey w T a es → (Instr.findAsking key (.iface T (.pointer (some a))) es i).run P w = .ok none w := by
    intro es
    induction es with
    | nil => intro i _; rfl
    | cons m r ih =>
      intro i hn
      obtain ⟨T', a', h1, h2, h3⟩ := hn m (List.mem_cons_self ..)
      have hr := ih (i + 1) (fun m' hm' => hn m' (List.mem_cons_of_mem _ hm'))
      have heq : (Op.equal key (.iface T (.pointer (some a))) m.key).run P w = .ok false w := by
        rw [h1]
        by_cases hT : T' = T
        · subst hT
          rw [run_equal_ifp ha h2, decide_eq_false (fun e => h3 rfl e.symm)]
        · have hk : ∀ k : Nat, (Op.equalIn (k + 1) key (.iface T (.pointer (some a))) (.iface T' (.pointer (some a')))).run P w = .ok false w := fun k => by
            rw [Op.equalIn]
            simp [Sem.run_bind, run_underlying h.at_, Ne.symm hT]
          exact hk 9999
      rw [Instr.findAsking]
      simp only [Sem.run_bind, heq, Result.andThen_ok]
      exact hr
  unfold Instr.findKey
  simp only [Sem.run_bind, run_underlying h.at_, Result.andThen_ok]
  cases es with
  | nil => rfl
  | cons m r =>
    obtain ⟨T', a', h1, h2, h3⟩ := hn m (List.mem_cons_self ..)
    have : Instr.findNow (.interface ms) (.iface T (.pointer (some a))) (m :: r) 0 = none := by
      simp [Instr.findNow, Instr.sameNow]
    rw [this]
    exact hask _ _ hn

theorem stp_lookup_nil {key el T : TypeId} {a : Addr} {zv : Value} [hm : Und P t (.map key el)] {ms : Array (String × TypeId)} [h : Und P key (.interface ms)] [hp : PtrT P T] [hc : CmpT P T] [hz : Zv P el zv]
    (hx : ev e x = some (.map none)) (hy : ev e y = some (.iface T (.pointer (some a)))) :
    Stp P e ⟨d, .lookup t x y false, ty, pos, aft, g⟩ w (fun v w' => v = zv ∧ w = w') := ⟨fun ρ hρ => by
  have h0 : (Instr.findKey key (.iface T (.pointer (some a))) []).run P w = .ok none w := by
    unfold Instr.findKey
    simp only [Sem.run_bind, run_underlying h.at_, Result.andThen_ok]; rfl
  simp [execOp, hρ x _ hx, hρ y _ hy, Instr.lookup, Sem.run_bind, run_underlying hm.at_, run_checkKey_ifp (P := P) (w := w) (key := key) (T := T), h0, hz.run]⟩

theorem stp_lookup_no {key el T : TypeId} {a : Addr} {zv : Value} {r : Nat} {es : Array MapEntry} {c : Nat} [hm : Und P t (.map key el)] {ms : Array (String × TypeId)} [h : Und P key (.interface ms)] [hp : PtrT P T] [hc : CmpT P T] [hz : Zv P el zv]
    (hx : ev e x = some (.map (some r))) (hy : ev e y = some (.iface T (.pointer (some a)))) (hr : Has w r (.map es c)) (ha : Pl w a.block) (hn : NoKey w T a es.toList) :
    Stp P e ⟨d, .lookup t x y false, ty, pos, aft, g⟩ w (fun v w' => v = zv ∧ w = w') := ⟨fun ρ hρ => by
  have h0 := run_findKey_no (P := P) (key := key) ha hn
  simp [execOp, hρ x _ hx, hρ y _ hy, Instr.lookup, Sem.run_bind, run_underlying hm.at_, run_checkKey_ifp (P := P) (w := w) (key := key) (T := T), h0, hz.run, run_getMap hr.at_]⟩

theorem stp_makeMap : Stp P e ⟨d, .makeMap t none, ty, pos, aft, g⟩ w (fun v w' => ∃ b, v = .map (some b) ∧ New w b (.map #[] 0) w') := ⟨fun ρ _ => by
  simp only [execOp, Instr.makeMap, newObj, bind, Sem.bind, pure]
  exact ⟨_, rfl, New.alloc w _⟩⟩

theorem Upd.setMap {w : World} {b : Nat} {es es' : Array MapEntry} {c c' : Nat} (h : Has w b (.map es c)) : Upd w b (.map es' c') { w with heap := w.heap.setIfInBounds b (.map es' c') } := by
  have hl := h.lt
  refine ⟨⟨by simp [hl]⟩, fun k hk => by simp [Ne.symm hk], by simp, rfl, rfl, rfl⟩

theorem stp_mapNew {key el T : TypeId} {a : Addr} {v : Value} {r : Nat} {es : Array MapEntry} {c : Nat} [hm : Und P t (.map key el)] {ms : Array (String × TypeId)} [h : Und P key (.interface ms)] [hp : PtrT P T] [hc : CmpT P T]
    (hx : ev e x = some (.map (some r))) (hy : ev e y = some (.iface T (.pointer (some a)))) (hv : ev e z = some v) (hr : Has w r (.map es c)) (ha : Pl w a.block) (hn : NoKey w T a es.toList) :
    Stp P e ⟨d, .mapUpdate t x y z, ty, pos, aft, g⟩ w (fun _ w' => Upd w r (.map (es.push ⟨.iface T (.pointer (some a)), v, c⟩) (c + 1)) w') := ⟨fun ρ hρ => by
  have h0 := run_findKey_no (P := P) (key := key) ha hn
  have hu := Upd.setMap (es' := es.push ⟨.iface T (.pointer (some a)), v, c⟩) (c' := c + 1) hr
  simp [execOp, hρ x _ hx, hρ y _ hy, hρ z _ hv, Instr.mapUpdate, Sem.run_bind, run_underlying hm.at_, run_checkKey_ifp (P := P) (w := w) (key := key) (T := T), h0, run_getMap hr.at_, run_setMap _ hr.at_]
  exact hu⟩
end Go.Kd
namespace Go.Kd
variable {P : Program} {e : Env} {w : World} {d : Option Tmp} {ty t t2 : TypeId} {pos : String} {aft : Array Edge} {g : Option (Nat × Bool)} {x y z : Operand}

/-! ### Methods through an embedded struct at the first place -/
class MthQ (P : Program) (t : TypeId) (name : String) (k : outParam FuncId) : Prop where
  at_ : ∃ i m s fs f, P.info? t = some i ∧ i.methods.find? (·.name == name) = some m ∧ m.path = #[⟨s, 0, true⟩] ∧ m.func = some (k, true) ∧ P.underlying s = some (.struct fs) ∧ fs[0]? = some f ∧ f.offset = 0 ∧ (∃ j, P.info? f.type = some j ∧ j.size ≠ 0) ∧ ∃ gs, P.underlying f.type = some (.struct gs)
def mthQB (P : Program) (t : Nat) (name : String) : Option Nat :=
  match P.info? t with
    | some i => match i.methods.find? (·.name == name) with
      | some m => match m.path.toList with
        | [⟨s, 0, true⟩] => match m.func with
          | some (k, true) => match P.underlying s with
            | some (.struct fs) => match fs[0]? with
              | some f => if f.offset == 0 then (match P.info? f.type with
                | some j => if j.size == 0 then none else (match P.underlying f.type with
                  | some (.struct _) => some k
                  | _ => none)
                | none => none) else none
              | none => none
            | _ => none
          | _ => none
        | _ => none
      | none => none
    | none => none
theorem mthQ_of {P : Program} {t k : Nat} {name : String} (h : mthQB P t name = some k) : MthQ P t name k := by
  unfold mthQB at h
  split at h <;> try (cases h; done)
  rename_i i h1
  split at h <;> try (cases h; done)
  rename_i m h2
  split at h <;> try (cases h; done)
  rename_i s h3
  split at h <;> try (cases h; done)
  rename_i k' h4
  split at h <;> try (cases h; done)
  rename_i fs h5
  split at h <;> try (cases h; done)
  rename_i f h6
  split at h <;> try (cases h; done)
  rename_i h7
  split at h <;> try (cases h; done)
  rename_i j h8
  split at h <;> try (cases h; done)
  rename_i h9
  split at h <;> try (cases h; done)
  rename_i gs h10
  cases h
  refine ⟨i, m, s, fs, f, h1, h2, ?_, h4, h5, h6, by simpa using h7, ⟨j, h8, by simpa using h9⟩, gs, h10⟩
  have := congrArg List.toArray h3
  simpa using this
theorem stp_invokeQ {recv : Operand} {name : String} {args : List Operand} {tys : Array TypeId} {T : TypeId} {b : Nat} {vs : List Value} {k : FuncId} {R : Value → World → Prop}
    [hm : MthQ P T name k] [h : Fun P k] (hr : ev e recv = some (.iface T (.pointer (some ⟨b, 0, none⟩)))) (ha : evs e args = some vs) (hc : Calls P k (.pointer (some ⟨b, 0, none⟩) :: vs).toArray w (Ret R)) :
    Stp P e ⟨d, .call ⟨.invoke recv name, args.toArray, tys⟩, ty, pos, aft, g⟩ w R := ⟨fun ρ hρ => by
  obtain ⟨fn, h1, h2, h3⟩ := h.at_
  obtain ⟨i, m, s, fs, f, k1, k2, k3, k4, k5, k6, k7, ⟨j, k8, k9⟩, gs, k10⟩ := hm.at_
  have hv : args.toArray.map ρ = vs.toArray := by rw [← evs_spec hρ args vs ha]; simp
  have hf : ρ recv = .iface T (.pointer (some ⟨b, 0, none⟩)) := hρ _ _ hr
  have hfp : (fieldPlace ⟨b, 0, none⟩ f).run P w = .ok ⟨b, 0, none⟩ w := by
    unfold fieldPlace
    simp [sizeOf, typeInfo, k8, k9, k7, Addr.add]
  have hmeth : ∀ fuel, (method (fuel + 1) T (.pointer (some ⟨b, 0, none⟩)) name).run P w = .ok (k, .pointer (some ⟨b, 0, none⟩)) w := fun fuel => by
    simp [method, typeInfo, k1, k2, k3, k4, follow, receiverAt, run_underlying k5, run_underlying k10, k6, Place.get, asAddr, hfp]
  have hfuel : P.types.size + Made.depth = (P.types.size + 99) + 1 := by unfold Made.depth; omega
  have hrun : (callMethod (.iface T (.pointer (some ⟨b, 0, none⟩))) name (#[Value.iface T (.pointer (some ⟨b, 0, none⟩))] ++ vs.toArray |>.extract 1 (#[Value.iface T (.pointer (some ⟨b, 0, none⟩))] ++ vs.toArray).size)).run P w = .ok (.enter k (.pointer (some ⟨b, 0, none⟩) :: vs).toArray) w := by
    simp only [callMethod, program, hfuel, Sem.run_bind, Sem.run, Result.andThen_ok, hmeth]
    have hx : (#[Value.iface T (.pointer (some ⟨b, 0, none⟩))] ++ vs.toArray |>.extract 1 (#[Value.iface T (.pointer (some ⟨b, 0, none⟩))] ++ vs.toArray).size) = vs.toArray := by simp
    rw [hx]
    simp only [callFunc, program, bind, Sem.bind, Sem.run, h1, h2, h3, Bool.false_eq_true, if_false, pure]
    simp
  simp only [execOp, resolve, hv, hf, invoke]
  have hsome : (#[Value.iface T (.pointer (some ⟨b, 0, none⟩))] ++ vs.toArray)[0]? = some (.iface T (.pointer (some ⟨b, 0, none⟩))) := by simp
  simp only [Sem.run_bind, Sem.run, pure, Result.andThen_ok, hsome, hrun]
  exact hc⟩

/-! ### Maps keyed by strings -/
def SM : List MapEntry → List (List UInt8 × Value) → Prop
  | [], [] => True
  | m :: r, p :: q => (∃ s : ByteArray, m.key = .string s ∧ s.toList = p.1) ∧ m.val = p.2 ∧ SM r q
  | _, _ => False
theorem SM.push : ∀ {es : List MapEntry} {l : List (List UInt8 × Value)}, SM es l → ∀ {m : MapEntry} {p : List UInt8 × Value}, (∃ s : ByteArray, m.key = .string s ∧ s.toList = p.1) → m.val = p.2 → SM (es ++ [m]) (l ++ [p])
  | [], [], _, _, _, h1, h2 => ⟨h1, h2, trivial⟩
  | _ :: _, _ :: _, h, _, _, h1, h2 => ⟨h.1, h.2.1, SM.push h.2.2 h1 h2⟩
  | [], _ :: _, h, _, _, _, _ => h.elim
  | _ :: _, [], h, _, _, _, _ => h.elim
theorem findNow_str (s : ByteArray) : ∀ (es : List MapEntry) (l : List (List UInt8 × Value)) (i : Nat), SM es l →
    (∀ p ∈ l, p.1 ≠ s.toList) → Instr.findNow .string (.string s) es i = some none
  | [], [], _, _, _ => rfl
  | m :: r, p :: q, i, h, hn => by
    obtain ⟨⟨k, h1, h2⟩, _, h3⟩ := h
    have hne : (s == k) = false := by
      rw [beq_toListBytes, beq_eq_false_iff_ne]
      intro e
      exact hn p (List.mem_cons_self ..) (by rw [← h2, e])
    unfold Instr.findNow
    rw [h1]
    simp only [Instr.sameNow, hne]
    exact findNow_str s r q (i + 1) h3 fun p hp => hn p (List.mem_cons_of_mem _ hp)
  | [], _ :: _, _, h, _ => h.elim
  | _ :: _, [], _, h, _ => h.elim
theorem findNow_str_yes (s : ByteArray) : ∀ (es : List MapEntry) (l : List (List UInt8 × Value)) (i : Nat), SM es l →
    (∃ p ∈ l, p.1 = s.toList) → ∃ j p, p ∈ l ∧ p.1 = s.toList ∧ Instr.findNow .string (.string s) es i = some (some (j, p.2))
  | [], [], _, _, hn => by obtain ⟨p, hp, _⟩ := hn; cases hp
  | m :: r, p :: q, i, h, hn => by
    obtain ⟨⟨k, h1, h2⟩, h4, h3⟩ := h
    by_cases hk : p.1 = s.toList
    · refine ⟨i, p, List.mem_cons_self .., hk, ?_⟩
      have : (s == k) = true := by rw [beq_toListBytes, h2, hk]; exact beq_self_eq_true _
      unfold Instr.findNow
      rw [h1]
      simp only [Instr.sameNow, this, h4]
    · have hne : (s == k) = false := by
        rw [beq_toListBytes, beq_eq_false_iff_ne]
        intro e
        exact hk (by rw [← h2, e])
      obtain ⟨p', hp', hq⟩ := hn
      rcases List.mem_cons.1 hp' with rfl | hp'
      · exact absurd hq hk
      · obtain ⟨j, p2, k1, k2, k3⟩ := findNow_str_yes s r q (i + 1) h3 ⟨p', hp', hq⟩
        refine ⟨j, p2, List.mem_cons_of_mem _ k1, k2, ?_⟩
        unfold Instr.findNow
        rw [h1]
        simp only [Instr.sameNow, hne]
        exact k3
  | [], _ :: _, _, h, _ => h.elim
  | _ :: _, [], _, h, _ => h.elim
theorem run_findKey_str {key : TypeId} [h : Und P key .string] {s : ByteArray} {es : List MapEntry} {r : Option (Nat × Value)} (hn : Instr.findNow .string (.string s) es 0 = some r) :
    (Instr.findKey key (.string s) es).run P w = .ok r w := by
  unfold Instr.findKey
  simp only [Sem.run_bind, run_underlying h.at_, Result.andThen_ok, hn]
  rfl
theorem run_checkKey_str {key : TypeId} [h : Und P key .string] {emp : Bool} {s : ByteArray} : (Instr.checkKey emp 10000 key (.string s)).run P w = .ok () w := by
  have hk : ∀ k : Nat, (Instr.checkKey emp (k + 1) key (.string s)).run P w = .ok () w := fun k => by
    rw [Instr.checkKey]
    simp [run_underlying h.at_]
  exact hk 9999
theorem yld_lookupS_nil {key el : TypeId} {s : ByteArray} {zv : Value} [hm : Und P t (.map key el)] [h : Und P key .string] [hz : Zv P el zv]
    (hx : ev e x = some (.map none)) (hy : ev e y = some (.string s)) : Yld P e ⟨d, .lookup t x y false, ty, pos, aft, g⟩ zv w := ⟨fun ρ hρ w' _ => by
  have h0 := run_findKey_str (P := P) (w := w') (key := key) (s := s) (es := []) (r := none) rfl
  simp [execOp, hρ x _ hx, hρ y _ hy, Instr.lookup, Sem.run_bind, run_underlying hm.at_, run_checkKey_str (P := P) (w := w') (key := key), h0, hz.run]⟩
theorem stp_lookupS {key el : TypeId} {s : ByteArray} {zv v : Value} {r : Nat} {es : Array MapEntry} {c : Nat} {q : Option (Nat × Value)} [hm : Und P t (.map key el)] [h : Und P key .string] [hz : Zv P el zv]
    (hx : ev e x = some (.map (some r))) (hy : ev e y = some (.string s)) (hr : Has w r (.map es c)) (hq : Instr.findNow .string (.string s) es.toList 0 = some q) (hv : v = (match q with | some p => p.2 | none => zv)) :
    Stp P e ⟨d, .lookup t x y false, ty, pos, aft, g⟩ w (fun v' w' => v' = v ∧ w = w') := ⟨fun ρ hρ => by
  have h0 := run_findKey_str (P := P) (w := w) (key := key) (s := s) hq
  subst hv
  cases q <;> simp [execOp, hρ x _ hx, hρ y _ hy, Instr.lookup, Sem.run_bind, run_underlying hm.at_, run_checkKey_str (P := P) (w := w) (key := key), h0, hz.run, run_getMap hr.at_]⟩
theorem stp_mapNewS {key el : TypeId} {s : ByteArray} {v : Value} {r : Nat} {es : Array MapEntry} {c : Nat} [hm : Und P t (.map key el)] [h : Und P key .string]
    (hx : ev e x = some (.map (some r))) (hy : ev e y = some (.string s)) (hv : ev e z = some v) (hr : Has w r (.map es c)) (hq : Instr.findNow .string (.string s) es.toList 0 = some none) :
    Stp P e ⟨d, .mapUpdate t x y z, ty, pos, aft, g⟩ w (fun _ w' => Upd w r (.map (es.push ⟨.string s, v, c⟩) (c + 1)) w') := ⟨fun ρ hρ => by
  have h0 := run_findKey_str (P := P) (w := w) (key := key) (s := s) hq
  have hu := Upd.setMap (es' := es.push ⟨.string s, v, c⟩) (c' := c + 1) hr
  simp [execOp, hρ x _ hx, hρ y _ hy, hρ z _ hv, Instr.mapUpdate, Sem.run_bind, run_underlying hm.at_, run_checkKey_str (P := P) (w := w) (key := key), h0, run_getMap hr.at_, run_setMap _ hr.at_]
  exact hu⟩
/-- a new row, of elements of one cell -/
theorem stp_makeSlice {el : TypeId} {z0 : Value} {n : Nat} {k k2 : IntKind} [hu : Und P t (.slice el)] [hz : Zro P el [z0]] [hi : Inf P el 1] [hb : Byt P el] (hx : ev e x = some (.int k (n : Int))) (hy : ev e y = some (.int k2 (n : Int))) (hn : n ≤ 1073741824) :
    Stp P e ⟨d, .makeSlice t x y, ty, pos, aft, g⟩ w (fun v w' => ∃ b, v = .slice (some ⟨b, 0, none⟩) n n ∧ New w b (.cells (List.replicate n z0).toArray el) w') := ⟨fun ρ hρ => by
  obtain ⟨i, zv, h2, h3, h4⟩ := hz.at_
  obtain ⟨i', h5, h6⟩ := hi.at_
  obtain ⟨i2, h7, h8⟩ := hb.at_
  obtain rfl : i = i' := by rw [h2] at h5; exact Option.some.inj h5
  obtain rfl : i = i2 := by rw [h2] at h7; exact Option.some.inj h7
  have hbytes : (i.bytes : Int) * (n : Int) ≤ 281474976710656 := by
    have : i.bytes * n ≤ 4096 * 1073741824 := Nat.mul_le_mul h8 hn
    have h9 : ((i.bytes * n : Nat) : Int) ≤ 4096 * 1073741824 := by omega
    rw [Int.natCast_mul] at h9
    omega
  have hr := run_make (P := P) w t el i zv hu.at_ h2 h3 k k2 n n (by omega) (Int.le_refl _) hbytes (by omega)
  simp only [Int.toNat_natCast, h6, Nat.mul_one, h4] at hr
  have hm : madeCells #[z0] n = (List.replicate n z0).toArray := by
    rw [← toList_madeCells_one z0 n]
  rw [hm] at hr
  simp only [execOp, hρ x _ hx, hρ y _ hy, Sem.run_bind, hr, Result.andThen_ok, Sem.run_pure]
  exact ⟨_, rfl, New.alloc w _⟩⟩
end Go.Kd

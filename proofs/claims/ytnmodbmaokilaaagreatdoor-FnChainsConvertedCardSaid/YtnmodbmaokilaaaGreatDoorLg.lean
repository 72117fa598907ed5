/- For every input, laws.FnChainsConverted returns true and leaves its arguments as they were: the first form's card. No conditions but what the row itself lists: the library's unicode tables hold what the program's text lays. -/
import Derived.Test.YtnmodbmaokilaaaGreatDoorFs
import Derived.Test.YtnmodbmaokilaaaGreatDoorPi
namespace Go.Proofs.YtnmodbmaokilaaaGreatDoor.fnChainsConverted
open Go Go.ChangeShapes Go.WideShapes Go.ChangeAt Go.RowKit
set_option maxRecDepth 100000

theorem contract (H : Type) (enc : TypeId × Value → H) (W : World) (base : Nat) (args : Array Value) (ds gs : List (DataW H)) (before : List MemPlace)
    (hval : ∀ (j : Nat) t v, Tryz.f8.params[j]? = some t → args[j]? = some v → Value.okWide Tryz.prog W .any base t v)
    (hW : DataW.Whole enc Tryz.prog Tryz.f8.params.toList Rows.fnChainsConvertedSpec.vars false W args.toList ds gs before) :
    Calls Tryz.prog 8 args W fun e W' => ∃ v, e = .returned v ∧ Rows.fnChainsConvertedSpec.post enc Tryz.prog Tryz.f8 false true false false W args v W' := by
  have hW' := hW
  obtain ⟨p, q, hA0, hV, rfl, hfz, hnd⟩ := hW
  have hA : DataW.TrodAll enc Tryz.prog W 0 (fun _ => true) true Tryz.f8.params.toList args.toList ds p := hA0
  rw [Tryz.params8] at hA hval
  obtain ⟨v0, vs0, d0, ds0, p0, q0, hargs, rfl, hp0, h0, r0⟩ := trodAll_cons hA
  obtain ⟨v1, vs1, d1, ds1, p1, q1, rfl, rfl, hp1, h1, r1⟩ := trodAll_cons r0
  obtain ⟨v2, vs2, d2, ds2, p2, q2, rfl, rfl, hp2, h2, r2⟩ := trodAll_cons r1
  obtain ⟨v3, vs3, d3, ds3, p3, q3, rfl, rfl, hp3, h3, r3⟩ := trodAll_cons r2
  obtain ⟨rfl, rfl, rfl⟩ := trodAll_nil r3
  obtain rfl : args = #[v0, v1, v2, v3] := by cases args; simp_all
  obtain ⟨rfl, rfl⟩ := trodVars_none hV
  obtain ⟨l0, hl0, hi0⟩ := ints_of Tryz.underlying31 Tryz.underlying3 (by kernel_rfl) h0 (hval 0 31 v0 rfl rfl)
  obtain ⟨l1, hl1, hi1⟩ := ints_of Tryz.underlying31 Tryz.underlying3 (by kernel_rfl) h1 (hval 1 31 v1 rfl rfl)
  obtain ⟨x2, rfl, rfl, rfl, wx2⟩ := open_int Tryz.underlying3 (hval 2 3 v2 rfl rfl) h2
  obtain ⟨x3, rfl, rfl, rfl, wx3⟩ := open_int Tryz.underlying3 (hval 3 3 v3 rfl rfl) h3
  refine (c_FnChainsConverted l0 v0 l1 v1 x2 x3 W hl0 hi0 hl1 hi1).mono fun e W' he => ?_
  obtain ⟨rv, he, rfl, hx⟩ := he
  exact ⟨_, he, law_post laidOut rfl (tb := 4) (by kernel_rfl) Tryz.underlying4 (by kernel_rfl) hW' rfl hx⟩

theorem reads (os : Os) {H : Type} (enc : TypeId × Value → H) : DataW.whole enc Tryz.prog ((wit os).forCall (fun _ _ => 0) ⟨#[], #[.slice none 0 0, .slice none 0 0, .int .i64 0, .int .i64 0], []⟩).memory Tryz.f8.params.toList Rows.fnChainsConvertedSpec.vars false #[Value.slice none 0 0, Value.slice none 0 0, Value.int .i64 0, Value.int .i64 0].toList 8 = some ([.nil, .nil, .lit (.int .i64 0), .lit (.int .i64 0)], [], []) := by kernel_rfl

theorem lifted (os : Os) (started : os.Started) (H : Type) (enc : TypeId × Value → H) (F : Stop.Interp) :
    ReturnsInHanded {} Tryz.checked os 8 .any ((OpenSpec.ofChange Rows.fnChainsConvertedSpec).preRow enc Tryz.prog Tryz.f8 Rows.fnChainsConvertedRow.domain false Rows.fnChainsConvertedRow.laid) (((OpenSpec.ofChange Rows.fnChainsConvertedSpec).at F).post enc Tryz.prog Tryz.f8 false true false false) := by
  refine returnsInHanded_of_row (C := Tryz.checked) (s := OpenSpec.ofChange Rows.fnChainsConvertedSpec) own started (by kernel_rfl) Tryz.func8
    (witness_row_shaped (enc := enc) (C := Tryz.checked) false (wit os) #[.slice none 0 0, .slice none 0 0, .int .i64 0, .int .i64 0] (World.laidAll_os _ _ _) (wit_shaped os _) (by kernel_rfl)
      (OpenSpec.preRow_of_cond 8 (reads os enc) (by kernel_rfl) (fun k hk => by cases hk) (by kernel_rfl) (wit_laid os _))) ?_
  intro W base args ds gs before hval hW _ _ _ hL _ _
  exact contract H enc W base args ds gs before hval hW

theorem said : Rows.FnChainsConvertedSaid :=
  OpenClaim.holds_of_cond 8 Tryz.f8 rfl rfl rfl rfl rfl rfl rfl ⟨rfl, rfl, rfl, rfl, rfl⟩ rfl rfl rfl rfl rfl (by kernel_rfl) Tryz.func8 (by kernel_rfl)
    (of_decide_eq_true (by kernel_rfl)) (by unfold Func.isWrapper; first | (rw [if_pos (by decide +kernel)]; kernel_rfl) | (rw [if_neg (by decide +kernel)]; exact ⟨rfl, rfl⟩))
    (fun os started H enc _ F => by rw [OpenClaim.pre_eq_preRow]; exact lifted os started H enc F)

theorem plain (f : FuncId) (fn : Func) (hf : Tryz.pinned.checked.prog.funcNamed "kindred/laws.FnChainsConverted" = some f) (hfn : Tryz.pinned.checked.prog.funcs[f]? = some fn) :
    true = Tryz.pinned.checked.prog.looks [] ∧ ∀ (j : Nat) t, fn.params[j]? = some t → Tryz.pinned.checked.prog.wantsStandIn t = false := by
  obtain rfl : f = 8 := Option.some.inj ((show Tryz.prog.funcNamed "kindred/laws.FnChainsConverted" = some 8 by kernel_rfl).symm.trans hf) |>.symm
  obtain rfl : fn = Tryz.f8 := (Option.some.inj (Tryz.func8.symm.trans hfn)).symm
  refine ⟨by kernel_rfl, fun j t ht => ?_⟩
  rw [Tryz.params8] at ht
  have hm : t ∈ [31, 3] := by
    have := Array.mem_of_getElem? ht
    simp at this ⊢
    omega
  have hall : ([31, 3].all fun u => !Tryz.pinned.checked.prog.wantsStandIn u) = true := by kernel_rfl
  simpa using List.all_eq_true.1 hall t hm

theorem card : Rows.FnChainsConvertedCardSaid :=
  Claim7.holds_tied_plain_at .later [] _ _ _ _ said (fun _ h => by cases h) (by kernel_rfl) (fun _ h => by cases h) fnChainsConverted_row_tie rfl ⟨rfl, rfl⟩ (by kernel_rfl) rfl plain (by kernel_rfl)
end Go.Proofs.YtnmodbmaokilaaaGreatDoor.fnChainsConverted


/- For every input of bulk at most 1048576, laws.FnArrayStruct returns true and leaves its arguments as they were: the second form's card. -/
import Derived.Test.YtpiegpegjbmlkaaGreatDoorZ6
import Derived.Test.YtpiegpegjbmlkaaGreatDoorWk1
namespace Go.Proofs.YtpiegpegjbmlkaaGreatDoor.fnArrayStruct
open Go Go.ChangeShapes Go.WideShapes Go.ChangeAt Go.RowKit
set_option maxRecDepth 100000

theorem contract (H : Type) (enc : TypeId × Value → H) (W : World) (base : Nat) (args : Array Value) (ds gs : List (DataW H)) (before : List MemPlace)
    (hval : ∀ (j : Nat) t v, Tryz.f6.params[j]? = some t → args[j]? = some v → Value.okWide Tryz.prog W .any base t v)
    (hW : DataW.Whole enc Tryz.prog Tryz.f6.params.toList Rows.fnArrayStructSpec.vars false W args.toList ds gs before) (hsm : Rows.uptoSmall H (ds ++ gs) = true) (hL : laidMetH Tryz.prog theLaid W) :
    Calls Tryz.prog 6 args W fun e W' => ∃ v, e = .returned v ∧ Rows.fnArrayStructSpec.post enc Tryz.prog Tryz.f6 false true false false W args v W' := by
  have hW' := hW
  obtain ⟨p, q, hA0, hV, rfl, hfz, hnd⟩ := hW
  have hA : DataW.TrodAll enc Tryz.prog W 0 (fun _ => true) true Tryz.f6.params.toList args.toList ds p := hA0
  rw [Tryz.params6] at hA hval
  obtain ⟨v0, vs0, d0, ds0, p0, q0, hargs, rfl, hp0, h0, r0⟩ := trodAll_cons hA
  obtain ⟨v1, vs1, d1, ds1, p1, q1, rfl, rfl, hp1, h1, r1⟩ := trodAll_cons r0
  obtain ⟨v2, vs2, d2, ds2, p2, q2, rfl, rfl, hp2, h2, r2⟩ := trodAll_cons r1
  obtain ⟨v3, vs3, d3, ds3, p3, q3, rfl, rfl, hp3, h3, r3⟩ := trodAll_cons r2
  obtain ⟨v4, vs4, d4, ds4, p4, q4, rfl, rfl, hp4, h4, r4⟩ := trodAll_cons r3
  obtain ⟨rfl, rfl, rfl⟩ := trodAll_nil r4
  obtain rfl : args = #[v0, v1, v2, v3, v4] := by cases args; simp_all
  obtain ⟨rfl, rfl⟩ := trodVars_none hV
  obtain ⟨D0, a0, c0, rfl, hd0, hs0⟩ := ds_of (hval 0 22 v0 rfl rfl) h0
  obtain ⟨t1, a1, c1, rfl, hd1, hs1⟩ := ty_of (hval 1 26 v1 rfl rfl) h1
  obtain ⟨x2, rfl, rfl, rfl, wx2⟩ := open_int Tryz.underlying3 (hval 2 3 v2 rfl rfl) h2
  obtain ⟨q3, rfl, rfl, rfl⟩ := RowKit.open_bool Tryz.underlying4 (hval 3 4 v3 rfl rfl) h3
  obtain ⟨x4, rfl, rfl, rfl, wx4⟩ := open_int Tryz.underlying3 (hval 4 3 v4 rfl rfl) h4
  have hb := small_of hsm
  simp only [List.append_nil, Rows.uptoBulkAll] at hb
  refine (Law.c_FnArrayStruct (prp_laid hL) (bsz_laid hL) (by simpa [Lit.wf, IntKind.min, IntKind.max, IntKind.signed, IntKind.bits] using wx2) (by simpa [Lit.wf, IntKind.min, IntKind.max, IntKind.signed, IntKind.bits] using wx4) (by omega) (by omega) hd0 hd1 (rngD_of h0 hd0) (rngT_of h1 hd1)).mono fun e W' he => ?_
  obtain ⟨rv, he, rfl, hx⟩ := he
  exact ⟨_, he, law_post laidOut rfl (tb := 4) (by kernel_rfl) Tryz.underlying4 (by kernel_rfl) hW' rfl hx⟩

theorem reads (os : Os) {H : Type} (enc : TypeId × Value → H) : DataW.whole enc Tryz.prog ((wit os).forCall (fun _ _ => 0) ⟨#[], #[.slice none 0 0, .agg #[.int .i64 0, .int .i64 0, .int .i64 0, .bool false, .slice none 0 0, .string ⟨#[]⟩, .string ⟨#[]⟩, .bool false], .int .i64 0, .bool false, .int .i64 0], []⟩).memory Tryz.f6.params.toList Rows.fnArrayStructSpec.vars false #[Value.slice none 0 0, Value.agg #[.int .i64 0, .int .i64 0, .int .i64 0, .bool false, .slice none 0 0, .string ⟨#[]⟩, .string ⟨#[]⟩, .bool false], Value.int .i64 0, Value.bool false, Value.int .i64 0].toList 8 = some ([.nil, .agg [.lit (.int .i64 0), .lit (.int .i64 0), .lit (.int .i64 0), .lit (.bool false), .nil, .lit (.string []), .lit (.string []), .lit (.bool false)], .lit (.int .i64 0), .lit (.bool false), .lit (.int .i64 0)], [], []) := by kernel_rfl

theorem lifted (os : Os) (started : os.Started) (H : Type) (enc : TypeId × Value → H) (F : Stop.Interp) :
    ReturnsInHanded {} Tryz.checked os 6 .any ((Rows.OpenSpec.upto Rows.fnArrayStructSpec).preRow enc Tryz.prog Tryz.f6 Rows.fnArrayStructUptoRow.domain false Rows.fnArrayStructUptoRow.laid) (((Rows.OpenSpec.upto Rows.fnArrayStructSpec).at F).post enc Tryz.prog Tryz.f6 false true false false) := by
  refine returnsInHanded_of_row (C := Tryz.checked) (s := Rows.OpenSpec.upto Rows.fnArrayStructSpec) own started (by kernel_rfl) Tryz.func6
    (witness_row_shaped (enc := enc) (C := Tryz.checked) false (wit os) #[.slice none 0 0, .agg #[.int .i64 0, .int .i64 0, .int .i64 0, .bool false, .slice none 0 0, .string ⟨#[]⟩, .string ⟨#[]⟩, .bool false], .int .i64 0, .bool false, .int .i64 0] (World.laidAll_os _ _ _) (wit_shaped os _) (by kernel_rfl)
      (OpenSpec.preRow_of_cond 8 (reads os enc) (by kernel_rfl) (fun k hk => by cases hk; kernel_rfl) (by kernel_rfl) (wit_laid os _))) ?_
  intro W base args ds gs before hval hW _ hc _ hL _ _
  exact contract H enc W base args ds gs before hval hW (hc _ rfl) hL

set_option maxHeartbeats 4000000 in
theorem closed : joinedFacts Tryz.pinned.checked.prog 6 Tryz.f6 (Rows.OpenSpec.upto Rows.fnArrayStructSpec).bare Rows.fnArrayStructUptoRow = true := by
  unfold joinedFacts
  simp only [Bool.and_eq_true]
  refine ⟨⟨⟨⟨⟨⟨⟨⟨⟨⟨⟨⟨⟨⟨⟨⟨⟨⟨⟨⟨⟨⟨⟨⟨⟨⟨⟨⟨⟨⟨⟨?_, ?_⟩, ?_⟩, ?_⟩, ?_⟩, ?_⟩, ?_⟩, ?_⟩, ?_⟩, ?_⟩, ?_⟩, ?_⟩, ?_⟩, ?_⟩, ?_⟩, ?_⟩, ?_⟩, ?_⟩, ?_⟩, ?_⟩, ?_⟩, ?_⟩, ?_⟩, ?_⟩, ?_⟩, ?_⟩, ?_⟩, ?_⟩, ?_⟩, ?_⟩, ?_⟩, ?_⟩
  all_goals (as_aux_lemma => kernel_rfl)
theorem said : Rows.FnArrayStructUptoSaid :=
  OpenClaim.holds_of_cond 6 Tryz.f6 rfl rfl rfl rfl rfl rfl rfl ⟨rfl, rfl, rfl, rfl, rfl⟩ rfl rfl rfl rfl rfl (by kernel_rfl) Tryz.func6 closed
    (of_decide_eq_true (by kernel_rfl)) (by unfold Func.isWrapper; first | (rw [if_pos (by decide +kernel)]; kernel_rfl) | (rw [if_neg (by decide +kernel)]; exact ⟨rfl, rfl⟩))
    (fun os started H enc _ F => by rw [OpenClaim.pre_eq_preRow]; exact lifted os started H enc F)

theorem plain (f : FuncId) (fn : Func) (hf : Tryz.pinned.checked.prog.funcNamed "kindred/laws.FnArrayStruct" = some f) (hfn : Tryz.pinned.checked.prog.funcs[f]? = some fn) :
    true = Tryz.pinned.checked.prog.looks [] ∧ ∀ (j : Nat) t, fn.params[j]? = some t → Tryz.pinned.checked.prog.wantsStandIn t = false := by
  obtain rfl : f = 6 := Option.some.inj ((show Tryz.prog.funcNamed "kindred/laws.FnArrayStruct" = some 6 by kernel_rfl).symm.trans hf) |>.symm
  obtain rfl : fn = Tryz.f6 := (Option.some.inj (Tryz.func6.symm.trans hfn)).symm
  refine ⟨by kernel_rfl, fun j t ht => ?_⟩
  rw [Tryz.params6] at ht
  have hm : t ∈ [22, 4, 3, 26] := by
    have := Array.mem_of_getElem? ht
    simp at this ⊢
    first | (rcases this with h | h <;> simp [h]) | (rcases this with h | h | h <;> simp [h]) | (rcases this with h | h | h | h <;> simp [h]) | (rcases this with h | h | h | h | h <;> simp [h]) | omega
  have hall : ([22, 4, 3, 26].all fun u => !Tryz.pinned.checked.prog.wantsStandIn u) = true := by kernel_rfl
  simpa using List.all_eq_true.1 hall t hm

theorem card : Rows.FnArrayStructUptoCardSaid :=
  Claim7.holds_tied_plain_at .later [] _ _ _ _ said (fun _ h => by cases h) (by kernel_rfl) (fun _ h => by cases h) fnArrayStructUpto_row_tie rfl ⟨rfl, rfl⟩ (by kernel_rfl) rfl plain (by kernel_rfl)
end Go.Proofs.YtpiegpegjbmlkaaGreatDoor.fnArrayStruct

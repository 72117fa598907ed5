/- For every input of bulk at most 1048576, laws.FnFields returns true and leaves its arguments as they were: the second form's card. -/
import Derived.Test.YtpiegpegjbmlkaaGreatDoorWl1
import Derived.Test.YtpiegpegjbmlkaaGreatDoorXf5
namespace Go.Proofs.YtpiegpegjbmlkaaGreatDoor.fnFields
open Go Go.ChangeShapes Go.WideShapes Go.ChangeAt Go.RowKit
set_option maxRecDepth 100000

theorem contract (H : Type) (enc : TypeId × Value → H) (W : World) (base : Nat) (args : Array Value) (ds gs : List (DataW H)) (before : List MemPlace)
    (hval : ∀ (j : Nat) t v, Tryz.f13.params[j]? = some t → args[j]? = some v → Value.okWide Tryz.prog W .any base t v)
    (hW : DataW.Whole enc Tryz.prog Tryz.f13.params.toList Rows.fnFieldsSpec.vars false W args.toList ds gs before) (hsm : Rows.uptoSmall H (ds ++ gs) = true) (hL : laidMetH Tryz.prog theLaid2 W) :
    Calls Tryz.prog 13 args W fun e W' => ∃ v, e = .returned v ∧ Rows.fnFieldsSpec.post enc Tryz.prog Tryz.f13 false true false false W args v W' := by
  have hW' := hW
  obtain ⟨p, q, hA0, hV, rfl, hfz, hnd⟩ := hW
  have hA : DataW.TrodAll enc Tryz.prog W 0 (fun _ => true) true Tryz.f13.params.toList args.toList ds p := hA0
  rw [Tryz.params13] at hA hval
  obtain ⟨v0, vs0, d0, ds0, p0, q0, hargs, rfl, hp0, h0, r0⟩ := trodAll_cons hA
  obtain ⟨v1, vs1, d1, ds1, p1, q1, rfl, rfl, hp1, h1, r1⟩ := trodAll_cons r0
  obtain ⟨v2, vs2, d2, ds2, p2, q2, rfl, rfl, hp2, h2, r2⟩ := trodAll_cons r1
  obtain ⟨v3, vs3, d3, ds3, p3, q3, rfl, rfl, hp3, h3, r3⟩ := trodAll_cons r2
  obtain ⟨v4, vs4, d4, ds4, p4, q4, rfl, rfl, hp4, h4, r4⟩ := trodAll_cons r3
  obtain ⟨v5, vs5, d5, ds5, p5, q5, rfl, rfl, hp5, h5, r5⟩ := trodAll_cons r4
  obtain ⟨v6, vs6, d6, ds6, p6, q6, rfl, rfl, hp6, h6, r6⟩ := trodAll_cons r5
  obtain ⟨v7, vs7, d7, ds7, p7, q7, rfl, rfl, hp7, h7, r7⟩ := trodAll_cons r6
  obtain ⟨v8, vs8, d8, ds8, p8, q8, rfl, rfl, hp8, h8, r8⟩ := trodAll_cons r7
  obtain ⟨rfl, rfl, rfl⟩ := trodAll_nil r8
  obtain rfl : args = #[v0, v1, v2, v3, v4, v5, v6, v7, v8] := by cases args; simp_all
  obtain ⟨rfl, rfl⟩ := trodVars_none hV
  obtain ⟨D0, a0, c0, rfl, hd0, hs0⟩ := ds_of (hval 0 22 v0 rfl rfl) h0
  obtain ⟨t1, a1, c1, rfl, hd1, hs1⟩ := ty_of (hval 1 26 v1 rfl rfl) h1
  obtain ⟨t2, a2, c2, rfl, hd2, hs2⟩ := ty_of (hval 2 26 v2 rfl rfl) h2
  obtain ⟨s3, rfl, hs3⟩ := str_of (hval 3 9 v3 rfl rfl) h3
  obtain ⟨s4, rfl, hs4⟩ := str_of (hval 4 9 v4 rfl rfl) h4
  obtain ⟨s5, rfl, hs5⟩ := str_of (hval 5 9 v5 rfl rfl) h5
  obtain ⟨s6, rfl, hs6⟩ := str_of (hval 6 9 v6 rfl rfl) h6
  obtain ⟨x7, rfl, rfl, rfl, wx7⟩ := open_int Tryz.underlying3 (hval 7 3 v7 rfl rfl) h7
  obtain ⟨x8, rfl, rfl, rfl, wx8⟩ := open_int Tryz.underlying3 (hval 8 3 v8 rfl rfl) h8
  have hb := small_of hsm
  simp only [List.append_nil, Rows.uptoBulkAll] at hb
  refine (Law.c_FnFields (prp2_laid hL) (by simpa [Lit.wf, IntKind.min, IntKind.max, IntKind.signed, IntKind.bits] using wx7) (by simpa [Lit.wf, IntKind.min, IntKind.max, IntKind.signed, IntKind.bits] using wx8) (by omega) (by omega) (by omega) (by omega) (by omega) (by omega) (by omega) hd0 hd1 hd2 ).mono fun e W' he => ?_
  obtain ⟨rv, he, rfl, hx⟩ := he
  exact ⟨_, he, law_post laidOut rfl (tb := 4) (by kernel_rfl) Tryz.underlying4 (by kernel_rfl) hW' rfl hx⟩

theorem reads (os : Os) {H : Type} (enc : TypeId × Value → H) : DataW.whole enc Tryz.prog ((wit2 os).forCall (fun _ _ => 0) ⟨#[], #[.slice none 0 0, .agg #[.int .i64 0, .int .i64 0, .int .i64 0, .bool false, .slice none 0 0, .string ⟨#[]⟩, .string ⟨#[]⟩, .bool false], .agg #[.int .i64 0, .int .i64 0, .int .i64 0, .bool false, .slice none 0 0, .string ⟨#[]⟩, .string ⟨#[]⟩, .bool false], .string ⟨#[]⟩, .string ⟨#[]⟩, .string ⟨#[]⟩, .string ⟨#[]⟩, .int .i64 0, .int .i64 0], []⟩).memory Tryz.f13.params.toList Rows.fnFieldsSpec.vars false #[Value.slice none 0 0, Value.agg #[.int .i64 0, .int .i64 0, .int .i64 0, .bool false, .slice none 0 0, .string ⟨#[]⟩, .string ⟨#[]⟩, .bool false], Value.agg #[.int .i64 0, .int .i64 0, .int .i64 0, .bool false, .slice none 0 0, .string ⟨#[]⟩, .string ⟨#[]⟩, .bool false], Value.string ⟨#[]⟩, Value.string ⟨#[]⟩, Value.string ⟨#[]⟩, Value.string ⟨#[]⟩, Value.int .i64 0, Value.int .i64 0].toList 8 = some ([.nil, .agg [.lit (.int .i64 0), .lit (.int .i64 0), .lit (.int .i64 0), .lit (.bool false), .nil, .lit (.string []), .lit (.string []), .lit (.bool false)], .agg [.lit (.int .i64 0), .lit (.int .i64 0), .lit (.int .i64 0), .lit (.bool false), .nil, .lit (.string []), .lit (.string []), .lit (.bool false)], .lit (.string []), .lit (.string []), .lit (.string []), .lit (.string []), .lit (.int .i64 0), .lit (.int .i64 0)], [], []) := by kernel_rfl

theorem lifted (os : Os) (started : os.Started) (H : Type) (enc : TypeId × Value → H) (F : Stop.Interp) :
    ReturnsInHanded {} Tryz.checked os 13 .any ((Rows.OpenSpec.upto Rows.fnFieldsSpec).preRow enc Tryz.prog Tryz.f13 Rows.fnFieldsUptoRow.domain false Rows.fnFieldsUptoRow.laid) (((Rows.OpenSpec.upto Rows.fnFieldsSpec).at F).post enc Tryz.prog Tryz.f13 false true false false) := by
  refine returnsInHanded_of_row (C := Tryz.checked) (s := Rows.OpenSpec.upto Rows.fnFieldsSpec) own started (by kernel_rfl) Tryz.func13
    (witness_row_shaped (enc := enc) (C := Tryz.checked) false (wit2 os) #[.slice none 0 0, .agg #[.int .i64 0, .int .i64 0, .int .i64 0, .bool false, .slice none 0 0, .string ⟨#[]⟩, .string ⟨#[]⟩, .bool false], .agg #[.int .i64 0, .int .i64 0, .int .i64 0, .bool false, .slice none 0 0, .string ⟨#[]⟩, .string ⟨#[]⟩, .bool false], .string ⟨#[]⟩, .string ⟨#[]⟩, .string ⟨#[]⟩, .string ⟨#[]⟩, .int .i64 0, .int .i64 0] (World.laidAll_os _ _ _) (wit2_shaped os _) (by kernel_rfl)
      (OpenSpec.preRow_of_cond 8 (reads os enc) (by kernel_rfl) (fun k hk => by cases hk; kernel_rfl) (by kernel_rfl) (wit2_laid os _))) ?_
  intro W base args ds gs before hval hW _ hc _ hL _ _
  exact contract H enc W base args ds gs before hval hW (hc _ rfl) hL

set_option maxHeartbeats 4000000 in
theorem closed : joinedFacts Tryz.pinned.checked.prog 13 Tryz.f13 (Rows.OpenSpec.upto Rows.fnFieldsSpec).bare Rows.fnFieldsUptoRow = true := by
  unfold joinedFacts
  simp only [Bool.and_eq_true]
  refine ⟨⟨⟨⟨⟨⟨⟨⟨⟨⟨⟨⟨⟨⟨⟨⟨⟨⟨⟨⟨⟨⟨⟨⟨⟨⟨⟨⟨⟨⟨⟨?_, ?_⟩, ?_⟩, ?_⟩, ?_⟩, ?_⟩, ?_⟩, ?_⟩, ?_⟩, ?_⟩, ?_⟩, ?_⟩, ?_⟩, ?_⟩, ?_⟩, ?_⟩, ?_⟩, ?_⟩, ?_⟩, ?_⟩, ?_⟩, ?_⟩, ?_⟩, ?_⟩, ?_⟩, ?_⟩, ?_⟩, ?_⟩, ?_⟩, ?_⟩, ?_⟩, ?_⟩
  all_goals (as_aux_lemma => kernel_rfl)
theorem said : Rows.FnFieldsUptoSaid :=
  OpenClaim.holds_of_cond 13 Tryz.f13 rfl rfl rfl rfl rfl rfl rfl ⟨rfl, rfl, rfl, rfl, rfl⟩ rfl rfl rfl rfl rfl (by kernel_rfl) Tryz.func13 closed
    (of_decide_eq_true (by kernel_rfl)) (by unfold Func.isWrapper; first | (rw [if_pos (by decide +kernel)]; kernel_rfl) | (rw [if_neg (by decide +kernel)]; exact ⟨rfl, rfl⟩))
    (fun os started H enc _ F => by rw [OpenClaim.pre_eq_preRow]; exact lifted os started H enc F)

theorem plain (f : FuncId) (fn : Func) (hf : Tryz.pinned.checked.prog.funcNamed "kindred/laws.FnFields" = some f) (hfn : Tryz.pinned.checked.prog.funcs[f]? = some fn) :
    true = Tryz.pinned.checked.prog.looks [] ∧ ∀ (j : Nat) t, fn.params[j]? = some t → Tryz.pinned.checked.prog.wantsStandIn t = false := by
  obtain rfl : f = 13 := Option.some.inj ((show Tryz.prog.funcNamed "kindred/laws.FnFields" = some 13 by kernel_rfl).symm.trans hf) |>.symm
  obtain rfl : fn = Tryz.f13 := (Option.some.inj (Tryz.func13.symm.trans hfn)).symm
  refine ⟨by kernel_rfl, fun j t ht => ?_⟩
  rw [Tryz.params13] at ht
  have hm : t ∈ [22, 3, 26, 9] := by
    have := Array.mem_of_getElem? ht
    simp at this ⊢
    first | (rcases this with h | h <;> simp [h]) | (rcases this with h | h | h <;> simp [h]) | (rcases this with h | h | h | h <;> simp [h]) | (rcases this with h | h | h | h | h <;> simp [h]) | (rcases this with h | h | h | h | h | h <;> simp [h]) | (rcases this with h | h | h | h | h | h | h <;> simp [h]) | (rcases this with h | h | h | h | h | h | h | h <;> simp [h]) | (rcases this with h | h | h | h | h | h | h | h | h <;> simp [h]) | omega
  have hall : ([22, 3, 26, 9].all fun u => !Tryz.pinned.checked.prog.wantsStandIn u) = true := by kernel_rfl
  simpa using List.all_eq_true.1 hall t hm

theorem card : Rows.FnFieldsUptoCardSaid :=
  Claim7.holds_tied_plain_at .later [] _ _ _ _ said (fun _ h => by cases h) (by kernel_rfl) (fun _ h => by cases h) fnFieldsUpto_row_tie rfl ⟨rfl, rfl⟩ (by kernel_rfl) rfl plain (by kernel_rfl)
end Go.Proofs.YtpiegpegjbmlkaaGreatDoor.fnFields

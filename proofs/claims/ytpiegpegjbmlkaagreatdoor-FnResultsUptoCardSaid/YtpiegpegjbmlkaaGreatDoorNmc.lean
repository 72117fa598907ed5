/- For every input of bulk at most 1048576, laws.FnResults returns true and leaves its arguments as they were: the second form's card. -/
import Derived.Test.YtpiegpegjbmlkaaGreatDoorWm1
import Derived.Test.YtpiegpegjbmlkaaGreatDoorXf5
namespace Go.Proofs.YtpiegpegjbmlkaaGreatDoor.fnResults
open Go Go.ChangeShapes Go.WideShapes Go.ChangeAt Go.RowKit
set_option maxRecDepth 100000

theorem contract (H : Type) (enc : TypeId × Value → H) (W : World) (base : Nat) (args : Array Value) (ds gs : List (DataW H)) (before : List MemPlace)
    (hval : ∀ (j : Nat) t v, Tryz.f14.params[j]? = some t → args[j]? = some v → Value.okWide Tryz.prog W .any base t v)
    (hW : DataW.Whole enc Tryz.prog Tryz.f14.params.toList Rows.fnResultsSpec.vars false W args.toList ds gs before) (hsm : Rows.uptoSmall H (ds ++ gs) = true) (hL : laidMetH Tryz.prog theLaid2 W) :
    Calls Tryz.prog 14 args W fun e W' => ∃ v, e = .returned v ∧ Rows.fnResultsSpec.post enc Tryz.prog Tryz.f14 false true false false W args v W' := by
  have hW' := hW
  obtain ⟨p, q, hA0, hV, rfl, hfz, hnd⟩ := hW
  have hA : DataW.TrodAll enc Tryz.prog W 0 (fun _ => true) true Tryz.f14.params.toList args.toList ds p := hA0
  rw [Tryz.params14] at hA hval
  obtain ⟨v0, vs0, d0, ds0, p0, q0, hargs, rfl, hp0, h0, r0⟩ := trodAll_cons hA
  obtain ⟨v1, vs1, d1, ds1, p1, q1, rfl, rfl, hp1, h1, r1⟩ := trodAll_cons r0
  obtain ⟨v2, vs2, d2, ds2, p2, q2, rfl, rfl, hp2, h2, r2⟩ := trodAll_cons r1
  obtain ⟨v3, vs3, d3, ds3, p3, q3, rfl, rfl, hp3, h3, r3⟩ := trodAll_cons r2
  obtain ⟨rfl, rfl, rfl⟩ := trodAll_nil r3
  obtain rfl : args = #[v0, v1, v2, v3] := by cases args; simp_all
  obtain ⟨rfl, rfl⟩ := trodVars_none hV
  obtain ⟨D0, a0, c0, rfl, hd0, hs0⟩ := ds_of (hval 0 22 v0 rfl rfl) h0
  obtain ⟨l1, a1, c1, rfl, hd1, hs1⟩ := tys_of (hval 1 24 v1 rfl rfl) h1
  obtain ⟨l2, a2, c2, rfl, hd2, hs2⟩ := tys_of (hval 2 24 v2 rfl rfl) h2
  obtain ⟨t3, a3, c3, rfl, hd3, hs3⟩ := ty_of (hval 3 26 v3 rfl rfl) h3
  have hb := small_of hsm
  simp only [List.append_nil, Rows.uptoBulkAll] at hb
  refine (Law.c_FnResults (prp2_laid hL) (by omega) (by omega) (by omega) (by omega) hd0 hd1 hd2 hd3 ).mono fun e W' he => ?_
  obtain ⟨rv, he, rfl, hx⟩ := he
  exact ⟨_, he, law_post laidOut rfl (tb := 4) (by kernel_rfl) Tryz.underlying4 (by kernel_rfl) hW' rfl hx⟩

theorem reads (os : Os) {H : Type} (enc : TypeId × Value → H) : DataW.whole enc Tryz.prog ((wit2 os).forCall (fun _ _ => 0) ⟨#[], #[.slice none 0 0, .slice none 0 0, .slice none 0 0, .agg #[.int .i64 0, .int .i64 0, .int .i64 0, .bool false, .slice none 0 0, .string ⟨#[]⟩, .string ⟨#[]⟩, .bool false]], []⟩).memory Tryz.f14.params.toList Rows.fnResultsSpec.vars false #[Value.slice none 0 0, Value.slice none 0 0, Value.slice none 0 0, Value.agg #[.int .i64 0, .int .i64 0, .int .i64 0, .bool false, .slice none 0 0, .string ⟨#[]⟩, .string ⟨#[]⟩, .bool false]].toList 8 = some ([.nil, .nil, .nil, .agg [.lit (.int .i64 0), .lit (.int .i64 0), .lit (.int .i64 0), .lit (.bool false), .nil, .lit (.string []), .lit (.string []), .lit (.bool false)]], [], []) := by kernel_rfl

theorem lifted (os : Os) (started : os.Started) (H : Type) (enc : TypeId × Value → H) (F : Stop.Interp) :
    ReturnsInHanded {} Tryz.checked os 14 .any ((Rows.OpenSpec.upto Rows.fnResultsSpec).preRow enc Tryz.prog Tryz.f14 Rows.fnResultsUptoRow.domain false Rows.fnResultsUptoRow.laid) (((Rows.OpenSpec.upto Rows.fnResultsSpec).at F).post enc Tryz.prog Tryz.f14 false true false false) := by
  refine returnsInHanded_of_row (C := Tryz.checked) (s := Rows.OpenSpec.upto Rows.fnResultsSpec) own started (by kernel_rfl) Tryz.func14
    (witness_row_shaped (enc := enc) (C := Tryz.checked) false (wit2 os) #[.slice none 0 0, .slice none 0 0, .slice none 0 0, .agg #[.int .i64 0, .int .i64 0, .int .i64 0, .bool false, .slice none 0 0, .string ⟨#[]⟩, .string ⟨#[]⟩, .bool false]] (World.laidAll_os _ _ _) (wit2_shaped os _) (by kernel_rfl)
      (OpenSpec.preRow_of_cond 8 (reads os enc) (by kernel_rfl) (fun k hk => by cases hk; kernel_rfl) (by kernel_rfl) (wit2_laid os _))) ?_
  intro W base args ds gs before hval hW _ hc _ hL _ _
  exact contract H enc W base args ds gs before hval hW (hc _ rfl) hL

set_option maxHeartbeats 4000000 in
theorem closed : joinedFacts Tryz.pinned.checked.prog 14 Tryz.f14 (Rows.OpenSpec.upto Rows.fnResultsSpec).bare Rows.fnResultsUptoRow = true := by
  unfold joinedFacts
  simp only [Bool.and_eq_true]
  refine ⟨⟨⟨⟨⟨⟨⟨⟨⟨⟨⟨⟨⟨⟨⟨⟨⟨⟨⟨⟨⟨⟨⟨⟨⟨⟨⟨⟨⟨⟨⟨?_, ?_⟩, ?_⟩, ?_⟩, ?_⟩, ?_⟩, ?_⟩, ?_⟩, ?_⟩, ?_⟩, ?_⟩, ?_⟩, ?_⟩, ?_⟩, ?_⟩, ?_⟩, ?_⟩, ?_⟩, ?_⟩, ?_⟩, ?_⟩, ?_⟩, ?_⟩, ?_⟩, ?_⟩, ?_⟩, ?_⟩, ?_⟩, ?_⟩, ?_⟩, ?_⟩, ?_⟩
  all_goals (as_aux_lemma => kernel_rfl)
theorem said : Rows.FnResultsUptoSaid :=
  OpenClaim.holds_of_cond 14 Tryz.f14 rfl rfl rfl rfl rfl rfl rfl ⟨rfl, rfl, rfl, rfl, rfl⟩ rfl rfl rfl rfl rfl (by kernel_rfl) Tryz.func14 closed
    (of_decide_eq_true (by kernel_rfl)) (by unfold Func.isWrapper; first | (rw [if_pos (by decide +kernel)]; kernel_rfl) | (rw [if_neg (by decide +kernel)]; exact ⟨rfl, rfl⟩))
    (fun os started H enc _ F => by rw [OpenClaim.pre_eq_preRow]; exact lifted os started H enc F)

theorem plain (f : FuncId) (fn : Func) (hf : Tryz.pinned.checked.prog.funcNamed "kindred/laws.FnResults" = some f) (hfn : Tryz.pinned.checked.prog.funcs[f]? = some fn) :
    true = Tryz.pinned.checked.prog.looks [] ∧ ∀ (j : Nat) t, fn.params[j]? = some t → Tryz.pinned.checked.prog.wantsStandIn t = false := by
  obtain rfl : f = 14 := Option.some.inj ((show Tryz.prog.funcNamed "kindred/laws.FnResults" = some 14 by kernel_rfl).symm.trans hf) |>.symm
  obtain rfl : fn = Tryz.f14 := (Option.some.inj (Tryz.func14.symm.trans hfn)).symm
  refine ⟨by kernel_rfl, fun j t ht => ?_⟩
  rw [Tryz.params14] at ht
  have hm : t ∈ [22, 24, 26] := by
    have := Array.mem_of_getElem? ht
    simp at this ⊢
    first | (rcases this with h | h <;> simp [h]) | (rcases this with h | h | h <;> simp [h]) | (rcases this with h | h | h | h <;> simp [h]) | omega
  have hall : ([22, 24, 26].all fun u => !Tryz.pinned.checked.prog.wantsStandIn u) = true := by kernel_rfl
  simpa using List.all_eq_true.1 hall t hm

theorem card : Rows.FnResultsUptoCardSaid :=
  Claim7.holds_tied_plain_at .later [] _ _ _ _ said (fun _ h => by cases h) (by kernel_rfl) (fun _ h => by cases h) fnResultsUpto_row_tie rfl ⟨rfl, rfl⟩ (by kernel_rfl) rfl plain (by kernel_rfl)
end Go.Proofs.YtpiegpegjbmlkaaGreatDoor.fnResults

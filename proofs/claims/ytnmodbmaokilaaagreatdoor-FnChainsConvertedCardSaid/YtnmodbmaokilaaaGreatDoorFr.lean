/- The frame of a law over laid tables: the witness's world, the post-condition. -/
import Derived.Test.YtnmodbmaokilaaaGreatDoorCards
import Derived.Test.YtnmodbmaokilaaaGreatDoorTie
import Derived.WalkKit
import Derived.ProofKit
import Derived.OpenShut
import Derived.Deep.DeepHandedRow
import Derived.Carry
import Derived.Lay
import Derived.SevenTiedAt
import Derived.Test.YtnmodbmaokilaaaGreatDoorKd
namespace Go.Proofs.YtnmodbmaokilaaaGreatDoor
open Go Go.ChangeShapes Go.WideShapes Go.ChangeAt Go.RowKit
set_option maxRecDepth 100000

theorem own : ownKnob Tryz.prog.godebug = none := by kernel_rfl
theorem laidOut : laidOutB Tryz.prog = true := by kernel_rfl

abbrev theLaid : List (String × DataW Unit) := Rows.fnBasicsRow.laid

noncomputable def wit (os : Os) : World := World.laidAll Tryz.prog os theLaid

theorem wit_fits (os : Os) : (World.holding Tryz.prog os ⟨#[], #[], []⟩).layFits Tryz.prog theLaid [] = true := by kernel_rfl
theorem wit_ifaces (os : Os) : (World.holding Tryz.prog os ⟨#[], #[], []⟩).layIfaces Tryz.prog theLaid (World.laidAll Tryz.prog os theLaid) = true := by kernel_rfl
theorem wit_laid (os : Os) (args : Array Value) : laidMet Tryz.prog theLaid ((wit os).forCall (fun _ _ => 0) ⟨#[], args, []⟩).memory :=
  laidMet_laidAll args (wit_fits os) (wit_ifaces os)
theorem wit_shaped (os : Os) (args : Array Value) : ((wit os).forCall (fun _ _ => 0) ⟨#[], args, []⟩).Shaped Tryz.prog :=
  World.shaped_of_ZipB (by kernel_rfl) (by kernel_rfl)

theorem witness_row_shaped {H : Type} {enc : TypeId × Value → H} {C : Checked} {os : Os} {f : FuncId} {fn : Func} {s : OpenSpec} {conds : List PathCond} {apart : Bool} {laid : List (String × DataW Unit)} (modest : Bool) (w0 : World) (args : Array Value) (hos : w0.os = os)
    (hsh : (w0.forCall (fun _ _ => 0) ⟨#[], args, []⟩).Shaped C.prog)
    (hok : Input.okWideB C.prog (w0.forCall (fun _ _ => 0) ⟨#[], args, []⟩) f ⟨#[], args, []⟩ = true)
    (hrow : s.preRow enc C.prog fn conds apart laid (w0.forCall (fun _ _ => 0) ⟨#[], args, []⟩).memory args) :
    ∃ (w : World) (tape : Tape) (i : Input), w.os = os ∧ (w.forCall tape i).Shaped C.prog ∧ i.vars = [] ∧ Input.okWide C.prog (w.forCall tape i) .any w.heap.size f i ∧
      s.preRow enc C.prog fn conds apart laid (w.forCall tape i).memory i.args ∧ ({ modest := modest } : Assume).holds C.prog (lone (Frame.enter C.prog f i.args .normal) [] (w.forCall tape i)) :=
  ⟨w0, fun _ _ => 0, ⟨#[], args, []⟩, hos, hsh, (Input.okWide_of_okWideB (base := 0) hok).1, (Input.okWide_of_okWideB hok).2, hrow, by
    simp only [Assume.holds]
    exact ⟨by simp, by simp, fun _ => Modest.zero, by simp, by simp⟩⟩

/-- the arguments read as they did -/
theorem stays {H : Type} {enc : TypeId × Value → H} {P : Program} (hl : laidOutB P = true) {W W' : World} (hb : Below W.heap.size W W') :
    ∀ (ts : List TypeId) (vs : List Value) (ds : List (DataW H)) (ps : List MemPlace), (ts.all fun t => P.readableRec t && decide (t < P.types.size)) = true → DataW.TrodAll enc P W 0 (fun _ => true) true ts vs ds ps →
    (∀ x ∈ ps, x.block < W.heap.size) → DataW.TrodAll enc P W' 0 (fun b => decide (b < W.heap.size)) true ts vs ds ps
  | [], _, _, _, _, h, _ => by
    obtain ⟨rfl, rfl, rfl⟩ := trodAll_nil h
    exact trodAll_mk0
  | t :: ts, _, _, _, ht, h, hp => by
    obtain ⟨v, vs', d, ds', p, q, rfl, rfl, rfl, h1, h2⟩ := trodAll_cons h
    simp only [List.all_cons, Bool.and_eq_true, decide_eq_true_eq] at ht
    exact trodAll_cons_mk (Below.trod hl ht.1.1 ht.1.2 h1 hb (fun x hx => hp x (List.mem_append_left _ hx)))
      (stays hl hb ts vs' ds' q ht.2 h2 (fun x hx => hp x (List.mem_append_right _ hx)))

/-- a law's post-condition, behind a call that left what was there as it was -/
theorem law_post {H : Type} {enc : TypeId × Value → H} {P : Program} {f : Func} {s : ChangeSpec} {W W' : World} {args : Array Value} {ds gs : List (DataW H)} {before : List MemPlace} {tb : TypeId}
    (hl : laidOutB P = true) (hv : s.vars = []) (hr : f.resultTypes = #[tb]) (htb : P.underlying tb = some .bool) (hps : (f.params.toList.all fun t => P.readableRec t && decide (t < P.types.size)) = true)
    (hW : DataW.Whole enc P f.params.toList s.vars false W args.toList ds gs before) (hf : s.fn H (ds ++ gs) = { results := [.lit (.bool true)], args := ds, vars := [] }) (hx : Kd.Ext W W') :
    s.post enc P f false true false false W args (.bool true) W' := by
  have hlt := fun x hx => hW.lt x hx
  have hW' := hW
  obtain ⟨p, q, hA, hV, rfl, _, _⟩ := hW
  rw [hv] at hV
  obtain ⟨rfl, rfl⟩ := trodVars_none hV
  refine ⟨ds, [], p ++ [], [], p, [], hW', ?_, ?_, ?_, hx.below.frame _, fun h => by cases h⟩
  · rw [hr, hf]; exact trodAll_cons_mk (shut_bool htb _) trodAll_mk0
  · rw [hf]; exact stays hl hx.below _ _ _ _ hps hA (fun x hx => hlt x (List.mem_append_left _ hx))
  · rw [hv, hf]; rfl
end Go.Proofs.YtnmodbmaokilaaaGreatDoor

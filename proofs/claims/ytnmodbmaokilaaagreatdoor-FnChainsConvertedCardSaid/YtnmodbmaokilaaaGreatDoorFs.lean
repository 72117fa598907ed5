/- The frame of a law, more: slices of ints among the arguments. -/
import Derived.Test.YtnmodbmaokilaaaGreatDoorFr
import Derived.Test.YtnmodbmaokilaaaGreatDoorKg
namespace Go.Proofs.YtnmodbmaokilaaaGreatDoor
open Go Go.ChangeShapes Go.WideShapes Go.ChangeAt Go.RowKit

theorem ints_of {H : Type} {enc : TypeId × Value → H} {P : Program} {W : World} {base : Nat} {t e : TypeId} {v : Value} {d : DataW H} {p : List MemPlace}
    (ht : P.underlying t = some (.slice e)) (he : P.underlying e = some (.int .i64)) (hc : P.cellsOf e = 1)
    (h : DataW.Trod enc P W 0 (fun _ => true) true t v d p) (hval : Value.okWide P W .any base t v) : ∃ l : List Int, l.length ≤ 9223372036854775807 ∧ Kd.Ints W v l := by
  obtain ⟨a, len, cap, rfl⟩ := okWide_slice ht hval
  have hsp : ∀ a', a = some a' → a'.spot = none := by
    rintro a' rfl
    simp only [Value.okWide, ht, Cell.okWide, Cell.ok] at hval
    exact hval.2.2.2.1
  obtain ⟨fuel, hf⟩ := h
  rcases open_ints ht he hc hf with ⟨hcs, _⟩ | ⟨a', len', cap', zs, hcs, _, hl, hm, hz, _, hcell, _⟩
  · simp [Value.cells] at hcs
    obtain ⟨rfl, rfl, rfl⟩ := hcs
    exact ⟨[], by simp, .inl ⟨_, rfl, rfl⟩⟩
  · simp [Value.cells] at hcs
    obtain ⟨rfl, rfl, rfl⟩ := hcs
    have hs := hsp _ rfl
    obtain ⟨b, o, s⟩ := a'
    simp at hs
    subst hs
    simp at hz
    have hml : maxLen = 9223372036854775807 := by decide
    have hlen : (zs.take len).length = len := by simp; omega
    refine ⟨zs.take len, by omega, .inr ⟨b, o, cap, by rw [hlen], fun i v hv => ?_⟩⟩
    have hi : i < (zs.take len).length := (List.getElem?_eq_some_iff.1 hv).1
    have := hcell i (by omega)
    rw [add_plain] at this
    rw [this]
    rw [List.getElem?_take_of_lt (by omega)] at hv
    simp [List.getD, hv]
end Go.Proofs.YtnmodbmaokilaaaGreatDoor
